import JvmDerived
import JvmDerived.Pilot.@@N@@Statement
import JvmDerived.Pilot.@@N@@Code
set_option linter.unusedVariables false
set_option linter.unusedSimpArgs false
namespace Jvm.RoadKit
open Sem ClassFile Op Lib Jvm.Stand Jvm.Free Jvm.LawKit
section New
variable {p : Program} {l : Launch} {e : Env} {R : Room} {s : State} {m : MethodId} {args : Array Value} {below : List Frame} {meth : Method} {c : Code} {T : State} {locs : List Loc} {cells slots : Nat}
theorem retI (X : Stand p l e R s m args below meth c T locs cells slots) (hx : p.tables.exec = Jvm.exec) {pc : Nat} {Ls : Array Slot} {z : Int32} {rest : List Value} (hret : meth.sig.returnType = some .int) (hd : decode c.code pc = .ok (.ireturn, 1)) {fs : List Frame}
    (hl : ∀ (f : JFrame) (acts : List Action), f.method = m → f.locked = none → f.entered = [] → (doReturn e (T.setTop f) acts (some (.int z))).1 = T.setFrames fs) : Steps p.tables e below (T.setTop (mkF m pc Ls (.int z :: rest))) (T.setFrames fs) := by
  have hm' : T.vm.method? m = some meth := X.method'
  have hn : narrow .int (.int z) = .int z := rfl
  show Steps p.tables e below (T.setTop { method := m, pc := pc, locals := Ls, stack := _ :: rest, locked := none }) _
  jvm_step X.here [X.here.top, hx, hd, hm', hret, hn]
  first | (intro acts; rw [hl _ acts rfl rfl rfl]) | rw [hl _ _ rfl rfl rfl]
  exact Steps.refl _
/-- from here the run ends as G says -/
def WP (tb : Tables) (e : Env) (below : List Frame) (G : State → Outcome → Prop) (T : State) (f : JFrame) : Prop := ∃ s₂ o, Steps tb e below (T.setTop f) s₂ ∧ G s₂ o
theorem WP.go {tb : Tables} {G : State → Outcome → Prop} {f : JFrame} (h : WP tb e below G T f) : ∃ s₂ o, Steps tb e below (T.setTop f) s₂ ∧ G s₂ o := h
theorem WP.fin {tb : Tables} {G : State → Outcome → Prop} {f : JFrame} (h : ∃ s₂ o, Steps tb e below (T.setTop f) s₂ ∧ G s₂ o) : WP tb e below G T f := h
theorem WP.cast {tb : Tables} {G : State → Outcome → Prop} {f f' : JFrame} (q : f = f') (h : WP tb e below G T f') : WP tb e below G T f := q ▸ h
theorem WP.st {tb : Tables} {G : State → Outcome → Prop} {T' : State} {f f' : JFrame} (k : ∀ t, Steps tb e below (T'.setTop f') t → Steps tb e below (T.setTop f) t) (h : WP tb e below G T' f') : WP tb e below G T f := by
  obtain ⟨s₂, o, h1, h2⟩ := h
  exact ⟨s₂, o, k _ h1, h2⟩
theorem WP.tr {tb : Tables} {G : State → Outcome → Prop} {T' : State} {f f' : JFrame} (k : Steps tb e below (T.setTop f) (T'.setTop f')) (h : WP tb e below G T' f') : WP tb e below G T f := by
  obtain ⟨s₂, o, h1, h2⟩ := h
  exact ⟨s₂, o, k.trans h1, h2⟩
theorem WP.name {tb : Tables} {G : State → Outcome → Prop} {f : JFrame} (h : ∀ G', G' = G → WP tb e below G' T f) : WP tb e below G T f := h G rfl
theorem ownWider (X : Stand p l e R s m args below meth c T locs cells slots) {c' s' : Nat} (h1 : cells ≤ c') (h2 : slots ≤ s') : Stand p l e R s m args below meth c T locs c' s' := { X with same := X.same.mono h1 h2 }
end New
theorem Arv.rd {Z : State} {h : Heap} {a : Addr} {k : ClassId} {ty : FieldType} {z j : Int32} {vs : List Value} {dv : Value} (F : Arv Z h a k ty z vs dv) (hj : ¬ j < 0 ∧ j < z) : ∃ c : Cell, Arr Z h a c ty ∧ ¬ (j < 0 ∨ c.slots.size ≤ j.toNatClampNeg) ∧ c.slots[j.toNatClampNeg]? = some (vs.getD j.toNatClampNeg dv) ∧ c.slots.size.toInt32 = z := by
  obtain ⟨c, A, -, S, q, H, -⟩ := F
  have hin := inb_of S hj
  exact ⟨c, A, hin, H.at hin rfl, len_of S q⟩
theorem Arv.len {Z : State} {h : Heap} {a : Addr} {k : ClassId} {ty : FieldType} {z : Int32} {vs : List Value} {dv : Value} (F : Arv Z h a k ty z vs dv) : ∃ c : Cell, Arr Z h a c ty ∧ c.slots.size.toInt32 = z := by
  obtain ⟨c, A, -, S, q, -, -⟩ := F
  exact ⟨c, A, len_of S q⟩
theorem ownSel {s : State} {args : Array Value} {C : String} {x z y : MethodName} (hz : (Cond.selects C x z).before args s = true) (e : z.cls = y.cls) (hpriv : s.PrivateAt y) (hinst : (Cond.instanceMethod y).before args s = true) (hy : y.cls ≠ "java/lang/invoke/MethodHandle" ∧ y.cls ≠ "java/lang/invoke/VarHandle") : (Cond.selects y.cls y y).before args s = true := by
  obtain ⟨c2, r2, m2, -, -, q3, -, kP, hkP, hkPi⟩ := Cond.selects_spec hz
  exact selects_self_of_private (e ▸ findClass_of_methodNamed q3) hkP hkPi hpriv hinst hy
theorem ownNeOr {o x y : Addr} {h : Heap} (hn : o ≠ y) (hl : o < h.size) (hor : x = y ∨ h.size ≤ x) : o ≠ x := hor.elim (fun q => q ▸ hn) (fun q => Nat.ne_of_lt (Nat.lt_of_lt_of_le hl q))
theorem ownFits {t : FieldType} {x : Int32} {y : Value} (h : narrow t (.int x) = y) (hf : fits t (narrow t (.int x)) = true) : fits t y = true := h ▸ hf
theorem nar01 {b : Int32} (h : b = 0 ∨ b = 1) : nar .boolean b = b := by rcases h with rfl | rfl <;> rfl
end Jvm.RoadKit
namespace Jvm.Pilot.@@N@@
open Jvm Jvm.ClassFile Sem Op Lib Jvm.Free Jvm.Stand Jvm.LawKit Jvm.RoadKit Bundle Jvm.Pilot.@@N@@.Jvm.D
theorem ef_12 (m : MethodId) (z0 : Addr) : entryFrame m #[(.ref z0)] 1 = mkF m 0 #[.val (.ref z0)] [] := by
  all_goals first | (simp [entryFrame, mkF, argsToLocals, Value.category]; done) | rfl
theorem pn_0 : plainName "java/lang/Number" = true := by first | (simp [plainName, overriddenIn]; done) | decide +kernel
theorem d12_0 : decode jdk_18_method_1_code 0 = .ok (.aload_n 0, 1) := by decide +kernel
theorem w_85 {a0 : Array Value} {Z : State} (hw : ∀ d ∈ tables_1, d.before a0 Z = true) : (Jvm.Cond.methodLink "java/lang/Number" (1 : Nat) ({ cls := "java/lang/Object", name := "<init>", desc := "()V" } : Jvm.MethodName)).before a0 Z = true := hw _ (List.mem_of_getElem? (i := 85) rfl)
theorem d12_1 : decode jdk_18_method_1_code 1 = .ok (.invokespecial 1, 3) := by decide +kernel
theorem w_19 {a0 : Array Value} {Z : State} (hw : ∀ d ∈ tables_1, d.before a0 Z = true) : (Jvm.Cond.instanceMethod ({ cls := "java/lang/Object", name := "<init>", desc := "()V" } : Jvm.MethodName)).before a0 Z = true := hw _ (List.mem_of_getElem? (i := 19) rfl)
theorem w_20 {a0 : Array Value} {Z : State} (hw : ∀ d ∈ tables_1, d.before a0 Z = true) : (Jvm.Cond.code ({ cls := "java/lang/Object", name := "<init>", desc := "()V" } : Jvm.MethodName) object_method_1_code (1 : Nat) (Option.none : Option Jvm.ClassFile.FieldType)).before a0 Z = true := hw _ (List.mem_of_getElem? (i := 20) rfl)
theorem d12_4 : decode jdk_18_method_1_code 4 = .ok (.return_, 1) := by decide +kernel
def Q12 (Z : State) (a1 : Addr) (h0 : Heap) (n0 : Nat) (v : Option Value) (h : Heap) (L : List Loc) : Prop := v = none ∧ Fr n0 L ∧ Keep h0 h []
set_option maxRecDepth 65536 in
set_option maxHeartbeats 40000000 in
theorem rm12 (l : Launch) (Z : State) (a0 : Array Value) (hw : ∀ d ∈ tables_1, d.before a0 Z = true) (wsC : List Jvm.Cond) (a1 : Addr) (h0 : Heap) (n0 : Nat) (Z0 : n0 ≤ h0.size)  :
    MetFree l (⟨"java/lang/Number", "<init>", "()V"⟩ : MethodName) (head1 (Jvm.Cond.code (⟨"java/lang/Number", "<init>", "()V"⟩ : MethodName) jdk_18_method_1_code 1 none :: wsC) ({ frames := 1, cells := 0, slots := 0, locals := 12 } : Room)) (fun a U => a = #[(.ref a1)] ∧ Z.Warmed39 U.vm ∧ U.heap = h0) (fun _ _ _ _ _ => True) (fun _ U o U' => ∃ v L, o = .returned v ∧ Q12 Z a1 h0 n0 v U'.heap L ∧ FrameEnd U o U' L ({ frames := 1, cells := 0, slots := 0, locals := 12 } : Room).cells ({ frames := 1, cells := 0, slots := 0, locals := 12 } : Room).slots) := by
  refine MetFree.of_bodySF (plainFor_of_name pn_0) hisR ?_
  intro p e s m args below meth c s₁ Bd hml0 hP hK
  obtain ⟨rfl, hZ, hh⟩ := hP
  have hx := Bd.exec
  have hby := Bd.bytes
  have hml : c.maxLocals = 1 := hml0
  have hown : s.vm.findClass "java/lang/Number" = some m.cls := findClass_of_methodNamed Bd.named
  have hnm := (name_of_methodNamed Bd.named Bd.method).1
  have X0 : Stand p l e ({ frames := 1, cells := 0, slots := 0, locals := 12 } : Room) s m #[(.ref a1)] below meth c s₁ [] 0 0 := Stand.of_body Bd
  have e0 : s₁.heap = h0 := by rw [← hh, Bd.state]; rfl
  have NF := Fr.nil n0
  have KP : Keep h0 h0 [] := Keep.refl h0 _
  refine WP.go ?_
  refine WP.cast (ef_12 m a1) ?_
  refine WP.name ?_
  intro G hG
  refine WP.st (T' := s₁) (f' := (mkF m 1 #[.val (.ref a1)] [(.ref a1)])) (fun t k => ?_) ?_
  · refine XS.aloadN X0.here hx rfl (hb hby d12_0) rfl rfl ?_
    exact k
  obtain ⟨T1, X1, e1, st1⟩ := initO X0 hx hZ hown (w_85 hw) (w_19 hw) (w_20 hw) e0 (g := (mkF m 1 #[.val (.ref a1)] [(.ref a1)])) rfl (by rw [hml]; rfl) rfl (hb hby d12_1) (by decide) (W := 0) (by show 2 * 0 + _ ≤ _; exact Nat.le_of_eq rfl) (by decide)
  refine WP.st st1 ?_
  clear st1
  show WP p.tables e below _ T1 (mkF m 4 #[.val (.ref a1)] [])
  subst hG
  obtain ⟨fs, hr, hrun, hended, hW, hsame⟩ := X1.leave (v := none) (fun _ => rfl)
  refine WP.fin ⟨_, _, ?_, hrun, hended, _, _, rfl, ?_, ⟨_, rfl⟩, hW, hsame.mono (by decide) (by decide)⟩
  · exact X1.returnOut hx Bd.returns (hb hby d12_4) hr
  · show Q12 Z a1 h0 n0 _ T1.heap _
    rw [e1]
    exact ⟨rfl, NF, KP⟩
theorem ef_11 (m : MethodId) (z0 : Addr) (z1 : Int32) : entryFrame m #[(.ref z0), (.int z1)] 2 = mkF m 0 #[.val (.ref z0), .val (.int z1)] [] := by
  all_goals first | (simp [entryFrame, mkF, argsToLocals, Value.category]; done) | rfl
theorem pn_1 : plainName "java/lang/Integer" = true := by first | (simp [plainName, overriddenIn]; done) | decide +kernel
theorem d11_0 : decode jdk_33_method_23_code 0 = .ok (.aload_n 0, 1) := by decide +kernel
theorem w_79 {a0 : Array Value} {Z : State} (hw : ∀ d ∈ tables_1, d.before a0 Z = true) : (Jvm.Cond.methodLink "java/lang/Integer" (202 : Nat) ({ cls := "java/lang/Number", name := "<init>", desc := "()V" } : Jvm.MethodName)).before a0 Z = true := hw _ (List.mem_of_getElem? (i := 79) rfl)
theorem d11_1 : decode jdk_33_method_23_code 1 = .ok (.invokespecial 202, 3) := by decide +kernel
theorem w_84 {a0 : Array Value} {Z : State} (hw : ∀ d ∈ tables_1, d.before a0 Z = true) : (Jvm.Cond.code ({ cls := "java/lang/Number", name := "<init>", desc := "()V" } : Jvm.MethodName) jdk_18_method_1_code (1 : Nat) (Option.none : Option Jvm.ClassFile.FieldType)).before a0 Z = true := hw _ (List.mem_of_getElem? (i := 84) rfl)
theorem w_83 {a0 : Array Value} {Z : State} (hw : ∀ d ∈ tables_1, d.before a0 Z = true) : (Jvm.Cond.initialized "java/lang/Number").before a0 Z = true := hw _ (List.mem_of_getElem? (i := 83) rfl)
theorem pd_0 : parseMethodDescriptor "()V" = some ⟨[], none⟩ := by decide +kernel
theorem w_80 {a0 : Array Value} {Z : State} (hw : ∀ d ∈ tables_1, d.before a0 Z = true) : (Jvm.Cond.instanceMethod ({ cls := "java/lang/Number", name := "<init>", desc := "()V" } : Jvm.MethodName)).before a0 Z = true := hw _ (List.mem_of_getElem? (i := 80) rfl)
theorem d11_4 : decode jdk_33_method_23_code 4 = .ok (.aload_n 0, 1) := by decide +kernel
theorem d11_5 : decode jdk_33_method_23_code 5 = .ok (.iload_n 1, 1) := by decide +kernel
theorem w_86 {a0 : Array Value} {Z : State} (hw : ∀ d ∈ tables_1, d.before a0 Z = true) : (Jvm.Cond.fieldLink "java/lang/Integer" (205 : Nat) "java/lang/Integer" "value" "I").before a0 Z = true := hw _ (List.mem_of_getElem? (i := 86) rfl)
theorem w_87 {a0 : Array Value} {Z : State} (hw : ∀ d ∈ tables_1, d.before a0 Z = true) : (Jvm.Cond.laysFinal "java/lang/Integer" "java/lang/Integer" "value" "I").before a0 Z = true := hw _ (List.mem_of_getElem? (i := 87) rfl)
theorem w_74 {a0 : Array Value} {Z : State} (hw : ∀ d ∈ tables_1, d.before a0 Z = true) : (Jvm.Cond.instantiable "java/lang/Integer" (1 : Nat)).before a0 Z = true := hw _ (List.mem_of_getElem? (i := 74) rfl)
theorem d11_6 : decode jdk_33_method_23_code 6 = .ok (.putfield 205, 3) := by decide +kernel
theorem d11_9 : decode jdk_33_method_23_code 9 = .ok (.return_, 1) := by decide +kernel
def Q11 (Z : State) (a1 : Addr) (p1 : Int32) (u1 : Int32) (h0 : Heap) (n0 : Nat) (v : Option Value) (h : Heap) (L : List Loc) : Prop := v = none ∧ Fr n0 L ∧ Keep h0 h [a1]
set_option maxRecDepth 65536 in
set_option maxHeartbeats 40000000 in
theorem rm11 (l : Launch) (Z : State) (a0 : Array Value) (hw : ∀ d ∈ tables_1, d.before a0 Z = true) (wsC : List Jvm.Cond) (a1 : Addr) (p1 : Int32) (u1 : Int32) (h0 : Heap) (n0 : Nat) (Z0 : n0 ≤ h0.size) (E_a1 : Exa Z h0 a1 "java/lang/Integer") (g_a1 : n0 ≤ a1) (F_a1_value : Fld Z h0 a1 "java/lang/Integer" "value" "I" (.int u1)) :
    MetFree l (⟨"java/lang/Integer", "<init>", "(I)V"⟩ : MethodName) (head1 (Jvm.Cond.code (⟨"java/lang/Integer", "<init>", "(I)V"⟩ : MethodName) jdk_33_method_23_code 2 none :: wsC) ({ frames := 2, cells := 0, slots := 0, locals := 24 } : Room)) (fun a U => a = #[(.ref a1), (.int p1)] ∧ Z.Warmed39 U.vm ∧ U.heap = h0) (fun _ _ _ _ _ => True) (fun _ U o U' => ∃ v L, o = .returned v ∧ Q11 Z a1 p1 u1 h0 n0 v U'.heap L ∧ FrameEnd U o U' L ({ frames := 2, cells := 0, slots := 0, locals := 24 } : Room).cells ({ frames := 2, cells := 0, slots := 0, locals := 24 } : Room).slots) := by
  refine MetFree.of_bodySF (plainFor_of_name pn_1) hisR ?_
  intro p e s m args below meth c s₁ Bd hml0 hP hK
  obtain ⟨rfl, hZ, hh⟩ := hP
  have hx := Bd.exec
  have hby := Bd.bytes
  have hml : c.maxLocals = 2 := hml0
  have hown : s.vm.findClass "java/lang/Integer" = some m.cls := findClass_of_methodNamed Bd.named
  have hnm := (name_of_methodNamed Bd.named Bd.method).1
  have X0 : Stand p l e ({ frames := 2, cells := 0, slots := 0, locals := 24 } : Room) s m #[(.ref a1), (.int p1)] below meth c s₁ [] 0 0 := Stand.of_body Bd
  have e0 : s₁.heap = h0 := by rw [← hh, Bd.state]; rfl
  have NF := Fr.nil n0
  have KP : Keep h0 h0 [a1] := Keep.refl h0 _
  refine WP.go ?_
  refine WP.cast (ef_11 m a1 p1) ?_
  refine WP.name ?_
  intro G hG
  refine WP.st (T' := s₁) (f' := (mkF m 1 #[.val (.ref a1), .val (.int p1)] [(.ref a1)])) (fun t k => ?_) ?_
  · refine XS.aloadN X0.here hx rfl (hb hby d11_0) rfl rfl ?_
    exact k
  obtain ⟨_, _, ⟨T2, L2, k2, n2⟩, -, X2, ⟨Lc2, hQ2, l2, y2, z2⟩, st2⟩ := X0.specialBack hx (y := (⟨"java/lang/Number", "<init>", "()V"⟩ : MethodName)) rfl hown (mvT hZ (w_79 hw)) (mvT hZ (w_80 hw)) (mvT hZ (w_84 hw)) (by decide) (backOf (W := 0) (rm12 l Z a0 hw [] a1 h0 n0 Z0 ) hZ (w_84 hw) (w_83 hw) (by decide) (by decide)) (g := (mkF m 1 #[.val (.ref a1), .val (.int p1)] [(.ref a1)])) rfl (by rw [hml]; rfl) (Steps.refl _) (a := a1) (argsL := []) (rest := []) (lenOf pd_0 rfl) rfl (by show 2 * 0 + _ ≤ _; exact Nat.le_of_eq rfl) (hb hby d11_1) (fun _ _ => ⟨rfl, e0, (by decide : 0 + 0 ≤ _), (by decide : 0 + 0 ≤ _)⟩)
  dsimp only [Pt.U, Pt.locs, Pt.cells, Pt.slots] at X2 l2 y2 z2 st2 hQ2
  subst l2 y2 z2
  obtain ⟨rfl, Nq2, Kq2⟩ := hQ2
  replace NF := Fr.app NF Nq2
  clear Nq2
  refine WP.tr st2 ?_
  clear st2
  obtain ⟨h2, e2⟩ : ∃ h, T2.heap = h := ⟨_, rfl⟩
  rw [e2] at Kq2
  replace E_a1 := E_a1.keep Kq2
  replace F_a1_value := F_a1_value.keep Kq2 (by exact nin0)
  replace Z0 := Nat.le_trans Z0 Kq2.1
  replace KP := KP.trans Kq2 all0
  clear Kq2
  have hXN : ∃ LL, Stand p l e ({ frames := 2, cells := 0, slots := 0, locals := 24 } : Room) s m #[(.ref a1), (.int p1)] below meth c T2 LL 0 0 ∧ Fr n0 LL := ⟨_, X2, NF⟩
  clear X2 NF
  obtain ⟨LL3, X2, NF⟩ := hXN
  show WP p.tables e below _ T2 (mkF m 4 #[.val (.ref a1), .val (.int p1)] [])
  refine WP.st (T' := T2) (f' := (mkF m 6 #[.val (.ref a1), .val (.int p1)] [(.int p1), (.ref a1)])) (fun t k => ?_) ?_
  · refine XS.aloadN X2.here hx rfl (hb hby d11_4) rfl rfl ?_
    show Steps p.tables e below (T2.setTop (mkF m 5 #[.val (.ref a1), .val (.int p1)] [(.ref a1)])) t
    refine XS.iloadN X2.here hx rfl (hb hby d11_5) rfl ?_
    exact k
  obtain ⟨T4, h4, X4, e4, W4, st4⟩ := putF X2 hx hZ hown (host := "") (Or.inl (w_86 hw)) Via.refl e2 F_a1_value E_a1 (Or.inr ⟨(w_87 hw), rfl, hnm⟩) (w_74 hw) (ty := .int) (by decide) rfl rfl (g := (mkF m 6 #[.val (.ref a1), .val (.int p1)] [(.int p1), (.ref a1)])) rfl rfl (hb hby d11_6)
  refine WP.st st4 ?_
  clear st4
  replace E_a1 := E_a1.wr W4
  replace F_a1_value := F_a1_value.same W4
  replace Z0 := Nat.le_trans Z0 (Keep.of_wr W4).1
  replace KP := KP.wr W4 (Or.inl (List.mem_of_getElem? (i := 0) rfl))
  replace NF := Fr.snoc X4 NF g_a1
  clear W4
  have hXN : ∃ LL, Stand p l e ({ frames := 2, cells := 0, slots := 0, locals := 24 } : Room) s m #[(.ref a1), (.int p1)] below meth c T4 LL 0 0 ∧ Fr n0 LL := ⟨_, X4, NF⟩
  clear X4 NF
  obtain ⟨LL5, X4, NF⟩ := hXN
  show WP p.tables e below _ T4 (mkF m 9 #[.val (.ref a1), .val (.int p1)] [])
  subst hG
  obtain ⟨fs, hr, hrun, hended, hW, hsame⟩ := X4.leave (v := none) (fun _ => rfl)
  refine WP.fin ⟨_, _, ?_, hrun, hended, _, _, rfl, ?_, ⟨_, rfl⟩, hW, hsame.mono (by decide) (by decide)⟩
  · exact X4.returnOut hx Bd.returns (hb hby d11_9) hr
  · show Q11 Z a1 p1 u1 h0 n0 _ T4.heap _
    rw [e4]
    exact ⟨rfl, NF, KP⟩
theorem own_idx {cl : Cell} {p1 : Int32} (hsz : cl.slots.size = 256) (h1 : ¬ p1 < (-128 : Int32)) (h2 : ¬ (127 : Int32) < p1) : ¬ ((p1 + (128 : Int32)) < 0 ∨ cl.slots.size ≤ (p1 + (128 : Int32)).toNatClampNeg) := by
  rw [Int32.lt_iff_toInt_lt] at h1 h2
  have e1 : (-128 : Int32).toInt = -128 := by decide
  have e2 : (127 : Int32).toInt = 127 := by decide
  rw [e1] at h1
  rw [e2] at h2
  have e3 : (p1 + (128 : Int32)).toInt = p1.toInt + 128 := by
    rw [Int32.toInt_add, show (128 : Int32).toInt = 128 by decide]
    exact Int.bmod_eq_of_le (by omega) (by omega)
  rw [hsz, Int32.lt_iff_toInt_lt, show (0 : Int32).toInt = 0 by decide, Int32.toNatClampNeg, e3]
  omega
theorem ef_1 (m : MethodId) (z0 : Int32) : entryFrame m #[(.int z0)] 1 = mkF m 0 #[.val (.int z0)] [] := by
  all_goals first | (simp [entryFrame, mkF, argsToLocals, Value.category]; done) | rfl
theorem d1_0 : decode jdk_33_method_22_code 0 = .ok (.iload_n 0, 1) := by decide +kernel
theorem d1_1 : decode jdk_33_method_22_code 1 = .ok (.bipush (-128), 2) := by decide +kernel
theorem d1_3 : decode jdk_33_method_22_code 3 = .ok (.if_icmp .lt 20, 3) := by decide +kernel
theorem w_73 {a0 : Array Value} {Z : State} (hw : ∀ d ∈ tables_1, d.before a0 Z = true) : (Jvm.Cond.classLink "java/lang/Integer" (1 : Nat) "java/lang/Integer").before a0 Z = true := hw _ (List.mem_of_getElem? (i := 73) rfl)
theorem w_2 {a0 : Array Value} {Z : State} (hw : ∀ d ∈ tables_1, d.before a0 Z = true) : (Jvm.Cond.initialized "java/lang/Integer").before a0 Z = true := hw _ (List.mem_of_getElem? (i := 2) rfl)
theorem d1_23 : decode jdk_33_method_22_code 23 = .ok (.new 1, 3) := by decide +kernel
theorem d1_26 : decode jdk_33_method_22_code 26 = .ok (.dup, 1) := by decide +kernel
theorem d1_27 : decode jdk_33_method_22_code 27 = .ok (.iload_n 0, 1) := by decide +kernel
theorem w_75 {a0 : Array Value} {Z : State} (hw : ∀ d ∈ tables_1, d.before a0 Z = true) : (Jvm.Cond.methodLink "java/lang/Integer" (199 : Nat) ({ cls := "java/lang/Integer", name := "<init>", desc := "(I)V" } : Jvm.MethodName)).before a0 Z = true := hw _ (List.mem_of_getElem? (i := 75) rfl)
theorem d1_28 : decode jdk_33_method_22_code 28 = .ok (.invokespecial 199, 3) := by decide +kernel
theorem w_78 {a0 : Array Value} {Z : State} (hw : ∀ d ∈ tables_1, d.before a0 Z = true) : (Jvm.Cond.code ({ cls := "java/lang/Integer", name := "<init>", desc := "(I)V" } : Jvm.MethodName) jdk_33_method_23_code (2 : Nat) (Option.none : Option Jvm.ClassFile.FieldType)).before a0 Z = true := hw _ (List.mem_of_getElem? (i := 78) rfl)
theorem pd_1 : parseMethodDescriptor "(I)V" = some ⟨[.int], none⟩ := by decide +kernel
theorem w_76 {a0 : Array Value} {Z : State} (hw : ∀ d ∈ tables_1, d.before a0 Z = true) : (Jvm.Cond.instanceMethod ({ cls := "java/lang/Integer", name := "<init>", desc := "(I)V" } : Jvm.MethodName)).before a0 Z = true := hw _ (List.mem_of_getElem? (i := 76) rfl)
theorem d1_31 : decode jdk_33_method_22_code 31 = .ok (.areturn, 1) := by decide +kernel
theorem d1_6 : decode jdk_33_method_22_code 6 = .ok (.iload_n 0, 1) := by decide +kernel
theorem w_4 {a0 : Array Value} {Z : State} (hw : ∀ d ∈ tables_1, d.before a0 Z = true) : (Jvm.Cond.fieldLink "java/lang/Integer" (191 : Nat) "java/lang/Integer$IntegerCache" "high" "I").before a0 Z = true := hw _ (List.mem_of_getElem? (i := 4) rfl)
theorem d1_7 : decode jdk_33_method_22_code 7 = .ok (.getstatic 191, 3) := by decide +kernel
theorem d1_10 : decode jdk_33_method_22_code 10 = .ok (.if_icmp .gt 13, 3) := by decide +kernel
theorem w_6 {a0 : Array Value} {Z : State} (hw : ∀ d ∈ tables_1, d.before a0 Z = true) : (Jvm.Cond.fieldLink "java/lang/Integer" (195 : Nat) "java/lang/Integer$IntegerCache" "cache" "[Ljava/lang/Integer;").before a0 Z = true := hw _ (List.mem_of_getElem? (i := 6) rfl)
theorem d1_13 : decode jdk_33_method_22_code 13 = .ok (.getstatic 195, 3) := by decide +kernel
theorem d1_16 : decode jdk_33_method_22_code 16 = .ok (.iload_n 0, 1) := by decide +kernel
theorem d1_17 : decode jdk_33_method_22_code 17 = .ok (.sipush 128, 3) := by decide +kernel
theorem d1_20 : decode jdk_33_method_22_code 20 = .ok (.iadd, 1) := by decide +kernel
theorem d1_21 : decode jdk_33_method_22_code 21 = .ok (.aaload, 1) := by decide +kernel
theorem d1_22 : decode jdk_33_method_22_code 22 = .ok (.areturn, 1) := by decide +kernel
def Q1 (Z : State) (p1 : Int32) (ca : Addr) (cl : Cell) (h0 : Heap) (n0 : Nat) (v : Option Value) (h : Heap) (L : List Loc) : Prop := ∃ r : Addr, v = some (.ref r) ∧ Fr n0 L ∧ Keep h0 h []
set_option maxRecDepth 65536 in
set_option maxHeartbeats 40000000 in
theorem rm1 (l : Launch) (Z : State) (a0 : Array Value) (hw : ∀ d ∈ tables_1, d.before a0 Z = true) (wsC : List Jvm.Cond) (p1 : Int32) (ca : Addr) (cl : Cell) (h0 : Heap) (n0 : Nat) (Z0 : n0 ≤ h0.size) (U_java_lang_Integer_IntegerCache_high : Sta Z h0 "java/lang/Integer$IntegerCache" "high" "I" (.int (127 : Int32))) (U_java_lang_Integer_IntegerCache_cache : Sta Z h0 "java/lang/Integer$IntegerCache" "cache" "[Ljava/lang/Integer;" (.ref ca)) (hAr : Arr Z h0 ca cl (.object "java/lang/Integer")) (hsz : cl.slots.size = 256) (hel : ∀ j : Int32, ¬ (j < 0 ∨ cl.slots.size ≤ j.toNatClampNeg) → ∃ b : Addr, cl.slots[j.toNatClampNeg]? = some (.ref b)) :
    MetFree l (⟨"java/lang/Integer", "valueOf", "(I)Ljava/lang/Integer;"⟩ : MethodName) (head1 (Jvm.Cond.code (⟨"java/lang/Integer", "valueOf", "(I)Ljava/lang/Integer;"⟩ : MethodName) jdk_33_method_22_code 1 (some (.object "java/lang/Integer")) :: wsC) ({ frames := 3, cells := 1, slots := 1, locals := 38 } : Room)) (fun a U => a = #[(.int p1)] ∧ Z.Warmed39 U.vm ∧ U.heap = h0) (fun _ _ _ _ _ => True) (fun _ U o U' => ∃ v L, o = .returned v ∧ Q1 Z p1 ca cl h0 n0 v U'.heap L ∧ FrameEnd U o U' L ({ frames := 3, cells := 1, slots := 1, locals := 38 } : Room).cells ({ frames := 3, cells := 1, slots := 1, locals := 38 } : Room).slots) := by
  refine MetFree.of_bodySF (plainFor_of_name pn_1) hisR ?_
  intro p e s m args below meth c s₁ Bd hml0 hP hK
  obtain ⟨rfl, hZ, hh⟩ := hP
  have hx := Bd.exec
  have hby := Bd.bytes
  have hml : c.maxLocals = 1 := hml0
  have hown : s.vm.findClass "java/lang/Integer" = some m.cls := findClass_of_methodNamed Bd.named
  have hnm := (name_of_methodNamed Bd.named Bd.method).1
  have X0 : Stand p l e ({ frames := 3, cells := 1, slots := 1, locals := 38 } : Room) s m #[(.int p1)] below meth c s₁ [] 0 0 := Stand.of_body Bd
  have e0 : s₁.heap = h0 := by rw [← hh, Bd.state]; rfl
  have NF := Fr.nil n0
  have KP : Keep h0 h0 [] := Keep.refl h0 _
  refine WP.go ?_
  refine WP.cast (ef_1 m p1) ?_
  refine WP.name ?_
  intro G hG
  refine WP.st (T' := s₁) (f' := (mkF m 3 #[.val (.int p1)] [(.int (-128 : Int32)), (.int p1)])) (fun t k => ?_) ?_
  · refine XS.iloadN X0.here hx rfl (hb hby d1_0) rfl ?_
    show Steps p.tables e below (s₁.setTop (mkF m 1 #[.val (.int p1)] [(.int p1)])) t
    refine XS.bipush X0.here hx rfl (hb hby d1_1) ?_
    exact k
  by_cases hc6 : p1 < (-128 : Int32)
  · skip
    refine WP.st (T' := s₁) (f' := (mkF m 23 #[.val (.int p1)] [])) (fun t k => ?_) ?_
    · refine XS.icmpYes X0.here hx rfl (pc0 := 3) (pc' := 23) rfl (hb hby d1_3) rfl (tlt hc6).1 (by decide) (by decide) ?_
      exact k
    obtain ⟨T7, h7, X7, e7, E7, A7, D7, -, st7⟩ := newO X0 hx hZ hown (w_73 hw) (w_74 hw) (w_2 hw) e0 (g := (mkF m 23 #[.val (.int p1)] [])) rfl (hb hby d1_23) (by decide) (by decide)
    obtain ⟨b7, g7⟩ : ∃ z, z = h0.size := ⟨_, rfl⟩
    rw [← g7] at A7 D7 st7
    refine WP.st st7 ?_
    clear st7
    have g_b7 : n0 ≤ b7 := Nat.le_trans Z0 (Nat.le_of_eq g7.symm)
    have sz_b7 : h0.size ≤ b7 := Nat.le_trans KP.1 (Nat.le_of_eq g7.symm)
    replace U_java_lang_Integer_IntegerCache_high := U_java_lang_Integer_IntegerCache_high.ext E7
    replace U_java_lang_Integer_IntegerCache_cache := U_java_lang_Integer_IntegerCache_cache.ext E7
    replace Z0 := Nat.le_trans Z0 E7.1
    replace KP := KP.ext E7
    have E_b7 := A7
    have F_b7_value : Fld Z h7 b7 "java/lang/Integer" "value" "I" (.int (0 : Int32)) := D7 (Or.inr (w_87 hw)) (ty := .int) (by decide)
    clear D7 A7
    show WP p.tables e below _ T7 (mkF m 26 #[.val (.int p1)] [(.ref b7)])
    refine WP.st (T' := T7) (f' := (mkF m 28 #[.val (.int p1)] [(.int p1), (.ref b7), (.ref b7)])) (fun t k => ?_) ?_
    · refine XS.dup X7.here hx rfl (hb hby d1_26) rfl rfl ?_
      show Steps p.tables e below (T7.setTop (mkF m 27 #[.val (.int p1)] [(.ref b7), (.ref b7)])) t
      refine XS.iloadN X7.here hx rfl (hb hby d1_27) rfl ?_
      exact k
    obtain ⟨_, _, ⟨T8, L8, k8, n8⟩, -, X8, ⟨Lc8, hQ8, l8, y8, z8⟩, st8⟩ := X7.specialBack hx (y := (⟨"java/lang/Integer", "<init>", "(I)V"⟩ : MethodName)) rfl hown (mvT hZ (w_75 hw)) (mvT hZ (w_76 hw)) (mvT hZ (w_78 hw)) (by decide) (backOf (W := 1) (rm11 l Z a0 hw [] b7 p1 (0 : Int32) h7 n0 Z0 E_b7 g_b7 F_b7_value) hZ (w_78 hw) (w_2 hw) (by decide) (by decide)) (g := (mkF m 28 #[.val (.int p1)] [(.int p1), (.ref b7), (.ref b7)])) rfl (by rw [hml]; rfl) (Steps.refl _) (a := b7) (argsL := [(.int p1)]) (rest := [(.ref b7)]) (lenOf pd_1 rfl) rfl (by show 2 * 0 + _ ≤ _; exact Nat.le_of_eq rfl) (hb hby d1_28) (fun _ _ => ⟨rfl, e7, (by decide : 1 + 0 ≤ _), (by decide : 1 + 0 ≤ _)⟩)
    dsimp only [Pt.U, Pt.locs, Pt.cells, Pt.slots] at X8 l8 y8 z8 st8 hQ8
    subst l8 y8 z8
    obtain ⟨rfl, Nq8, Kq8⟩ := hQ8
    replace NF := Fr.app NF Nq8
    clear Nq8
    refine WP.tr st8 ?_
    clear st8
    obtain ⟨h8, e8⟩ : ∃ h, T8.heap = h := ⟨_, rfl⟩
    rw [e8] at Kq8
    clear U_java_lang_Integer_IntegerCache_high
    clear U_java_lang_Integer_IntegerCache_cache
    replace E_b7 := E_b7.keep Kq8
    clear F_b7_value
    replace Z0 := Nat.le_trans Z0 Kq8.1
    replace KP := KP.trans Kq8 (allS (Or.inr sz_b7) all0)
    clear Kq8
    have hXN : ∃ LL, Stand p l e ({ frames := 3, cells := 1, slots := 1, locals := 38 } : Room) s m #[(.int p1)] below meth c T8 LL 1 1 ∧ Fr n0 LL := ⟨_, X8, NF⟩
    clear X8 NF
    obtain ⟨LL9, X8, NF⟩ := hXN
    show WP p.tables e below _ T8 (mkF m 31 #[.val (.int p1)] [(.ref b7)])
    subst hG
    obtain ⟨fs, hr, hrun, hended, hW, hsame⟩ := X8.leave (v := some (.ref b7)) (fun h => by rw [Bd.returns] at h; cases h)
    refine WP.fin ⟨_, _, ?_, hrun, hended, _, _, rfl, ?_, ⟨_, rfl⟩, hW, hsame.mono (by decide) (by decide)⟩
    · exact retOut X8 hx Bd.returns rfl (Or.inr (Or.inr (Or.inr (Or.inr ⟨rfl, rfl, rfl⟩)))) (hb hby d1_31) hr
    · show Q1 Z p1 ca cl h0 n0 _ T8.heap _
      rw [e8]
      exact ⟨b7, rfl, NF, KP⟩
  · skip
    refine WP.st (T' := s₁) (f' := (mkF m 7 #[.val (.int p1)] [(.int p1)])) (fun t k => ?_) ?_
    · refine XS.icmpNo X0.here hx rfl (hb hby d1_3) rfl (flt hc6).1 ?_
      show Steps p.tables e below (s₁.setTop (mkF m 6 #[.val (.int p1)] [])) t
      refine XS.iloadN X0.here hx rfl (hb hby d1_6) rfl ?_
      exact k
    obtain ⟨T10, X10, e10, st10⟩ := getS2 X0 hx hZ hown (host := "") (Or.inl (w_4 hw)) Via.refl e0 U_java_lang_Integer_IntegerCache_high (g := (mkF m 7 #[.val (.int p1)] [(.int p1)])) rfl (hb hby d1_7)
    refine WP.st st10 ?_
    clear st10
    show WP p.tables e below _ T10 (mkF m 10 #[.val (.int p1)] [(.int (127 : Int32)), (.int p1)])
    by_cases hc11 : (127 : Int32) < p1
    · skip
      refine WP.st (T' := T10) (f' := (mkF m 23 #[.val (.int p1)] [])) (fun t k => ?_) ?_
      · refine XS.icmpYes X10.here hx rfl (pc0 := 10) (pc' := 23) rfl (hb hby d1_10) rfl (tlt hc11).2.2.1 (by decide) (by decide) ?_
        exact k
      obtain ⟨T12, h12, X12, e12, E12, A12, D12, -, st12⟩ := newO X10 hx hZ hown (w_73 hw) (w_74 hw) (w_2 hw) e10 (g := (mkF m 23 #[.val (.int p1)] [])) rfl (hb hby d1_23) (by decide) (by decide)
      obtain ⟨b12, g12⟩ : ∃ z, z = h0.size := ⟨_, rfl⟩
      rw [← g12] at A12 D12 st12
      refine WP.st st12 ?_
      clear st12
      have g_b12 : n0 ≤ b12 := Nat.le_trans Z0 (Nat.le_of_eq g12.symm)
      have sz_b12 : h0.size ≤ b12 := Nat.le_trans KP.1 (Nat.le_of_eq g12.symm)
      replace U_java_lang_Integer_IntegerCache_high := U_java_lang_Integer_IntegerCache_high.ext E12
      replace U_java_lang_Integer_IntegerCache_cache := U_java_lang_Integer_IntegerCache_cache.ext E12
      replace Z0 := Nat.le_trans Z0 E12.1
      replace KP := KP.ext E12
      have E_b12 := A12
      have F_b12_value : Fld Z h12 b12 "java/lang/Integer" "value" "I" (.int (0 : Int32)) := D12 (Or.inr (w_87 hw)) (ty := .int) (by decide)
      clear D12 A12
      show WP p.tables e below _ T12 (mkF m 26 #[.val (.int p1)] [(.ref b12)])
      refine WP.st (T' := T12) (f' := (mkF m 28 #[.val (.int p1)] [(.int p1), (.ref b12), (.ref b12)])) (fun t k => ?_) ?_
      · refine XS.dup X12.here hx rfl (hb hby d1_26) rfl rfl ?_
        show Steps p.tables e below (T12.setTop (mkF m 27 #[.val (.int p1)] [(.ref b12), (.ref b12)])) t
        refine XS.iloadN X12.here hx rfl (hb hby d1_27) rfl ?_
        exact k
      obtain ⟨_, _, ⟨T13, L13, k13, n13⟩, -, X13, ⟨Lc13, hQ13, l13, y13, z13⟩, st13⟩ := X12.specialBack hx (y := (⟨"java/lang/Integer", "<init>", "(I)V"⟩ : MethodName)) rfl hown (mvT hZ (w_75 hw)) (mvT hZ (w_76 hw)) (mvT hZ (w_78 hw)) (by decide) (backOf (W := 1) (rm11 l Z a0 hw [] b12 p1 (0 : Int32) h12 n0 Z0 E_b12 g_b12 F_b12_value) hZ (w_78 hw) (w_2 hw) (by decide) (by decide)) (g := (mkF m 28 #[.val (.int p1)] [(.int p1), (.ref b12), (.ref b12)])) rfl (by rw [hml]; rfl) (Steps.refl _) (a := b12) (argsL := [(.int p1)]) (rest := [(.ref b12)]) (lenOf pd_1 rfl) rfl (by show 2 * 0 + _ ≤ _; exact Nat.le_of_eq rfl) (hb hby d1_28) (fun _ _ => ⟨rfl, e12, (by decide : 1 + 0 ≤ _), (by decide : 1 + 0 ≤ _)⟩)
      dsimp only [Pt.U, Pt.locs, Pt.cells, Pt.slots] at X13 l13 y13 z13 st13 hQ13
      subst l13 y13 z13
      obtain ⟨rfl, Nq13, Kq13⟩ := hQ13
      replace NF := Fr.app NF Nq13
      clear Nq13
      refine WP.tr st13 ?_
      clear st13
      obtain ⟨h13, e13⟩ : ∃ h, T13.heap = h := ⟨_, rfl⟩
      rw [e13] at Kq13
      clear U_java_lang_Integer_IntegerCache_high
      clear U_java_lang_Integer_IntegerCache_cache
      replace E_b12 := E_b12.keep Kq13
      clear F_b12_value
      replace Z0 := Nat.le_trans Z0 Kq13.1
      replace KP := KP.trans Kq13 (allS (Or.inr sz_b12) all0)
      clear Kq13
      have hXN : ∃ LL, Stand p l e ({ frames := 3, cells := 1, slots := 1, locals := 38 } : Room) s m #[(.int p1)] below meth c T13 LL 1 1 ∧ Fr n0 LL := ⟨_, X13, NF⟩
      clear X13 NF
      obtain ⟨LL14, X13, NF⟩ := hXN
      show WP p.tables e below _ T13 (mkF m 31 #[.val (.int p1)] [(.ref b12)])
      subst hG
      obtain ⟨fs, hr, hrun, hended, hW, hsame⟩ := X13.leave (v := some (.ref b12)) (fun h => by rw [Bd.returns] at h; cases h)
      refine WP.fin ⟨_, _, ?_, hrun, hended, _, _, rfl, ?_, ⟨_, rfl⟩, hW, hsame.mono (by decide) (by decide)⟩
      · exact retOut X13 hx Bd.returns rfl (Or.inr (Or.inr (Or.inr (Or.inr ⟨rfl, rfl, rfl⟩)))) (hb hby d1_31) hr
      · show Q1 Z p1 ca cl h0 n0 _ T13.heap _
        rw [e13]
        exact ⟨b12, rfl, NF, KP⟩
    · skip
      refine WP.st (T' := T10) (f' := (mkF m 13 #[.val (.int p1)] [])) (fun t k => ?_) ?_
      · refine XS.icmpNo X10.here hx rfl (hb hby d1_10) rfl (flt hc11).2.2.1 ?_
        exact k
      obtain ⟨T15, X15, e15, st15⟩ := getS2 X10 hx hZ hown (host := "") (Or.inl (w_6 hw)) Via.refl e10 U_java_lang_Integer_IntegerCache_cache (g := (mkF m 13 #[.val (.int p1)] [])) rfl (hb hby d1_13)
      refine WP.st st15 ?_
      clear st15
      show WP p.tables e below _ T15 (mkF m 16 #[.val (.int p1)] [(.ref ca)])
      refine WP.st (T' := T15) (f' := (mkF m 21 #[.val (.int p1)] [(.int (p1 + (128 : Int32))), (.ref ca)])) (fun t k => ?_) ?_
      · refine XS.iloadN X15.here hx rfl (hb hby d1_16) rfl ?_
        show Steps p.tables e below (T15.setTop (mkF m 17 #[.val (.int p1)] [(.int p1), (.ref ca)])) t
        refine XS.sipush X15.here hx rfl (hb hby d1_17) ?_
        show Steps p.tables e below (T15.setTop (mkF m 20 #[.val (.int p1)] [(.int (128 : Int32)), (.int p1), (.ref ca)])) t
        refine XS.iadd X15.here hx rfl (hb hby d1_20) rfl ?_
        exact k
      have hin : ¬ ((p1 + (128 : Int32)) < 0 ∨ cl.slots.size ≤ ((p1 + (128 : Int32))).toNatClampNeg) := own_idx hsz hc6 hc11
      obtain ⟨rb, hat⟩ := hel _ hin
      refine WP.st (T' := T15) (f' := (mkF m 22 #[.val (.int p1)] [(.ref rb)])) (fun t k => ?_) ?_
      · refine X15.aaload hx (j := (p1 + (128 : Int32))) (v := (.ref rb)) (by rw [e15]; exact hAr.1) (State.isArrayOf_alike hZ.alike hAr.2.1) rfl hAr.2.2 hin hat (g := (mkF m 21 #[.val (.int p1)] [(.int (p1 + (128 : Int32))), (.ref ca)])) rfl rfl (hb hby d1_21) _ ?_
        exact k
      subst hG
      obtain ⟨fs, hr, hrun, hended, hW, hsame⟩ := X15.leave (v := some (.ref rb)) (fun h => by rw [Bd.returns] at h; cases h)
      refine WP.fin ⟨_, _, ?_, hrun, hended, _, _, rfl, ?_, ⟨_, rfl⟩, hW, hsame.mono (by decide) (by decide)⟩
      · exact retOut X15 hx Bd.returns rfl (Or.inr (Or.inr (Or.inr (Or.inr ⟨rfl, rfl, rfl⟩)))) (hb hby d1_22) hr
      · show Q1 Z p1 ca cl h0 n0 _ T15.heap _
        rw [e15]
        exact ⟨rb, rfl, NF, KP⟩
theorem ef_3 (m : MethodId) (z0 : Addr) : entryFrame m #[(.ref z0)] 1 = mkF m 0 #[.val (.ref z0)] [] := by
  all_goals first | (simp [entryFrame, mkF, argsToLocals, Value.category]; done) | rfl
theorem pn_2 : plainName "com/example/hasten/hasten/Envelope" = true := by first | (simp [plainName, overriddenIn]; done) | decide +kernel
theorem d3_0 : decode prog_10_method_1_code 0 = .ok (.aload_n 0, 1) := by decide +kernel
theorem w_18 {a0 : Array Value} {Z : State} (hw : ∀ d ∈ tables_1, d.before a0 Z = true) : (Jvm.Cond.methodLink "com/example/hasten/hasten/Envelope" (1 : Nat) ({ cls := "java/lang/Object", name := "<init>", desc := "()V" } : Jvm.MethodName)).before a0 Z = true := hw _ (List.mem_of_getElem? (i := 18) rfl)
theorem d3_1 : decode prog_10_method_1_code 1 = .ok (.invokespecial 1, 3) := by decide +kernel
theorem d3_4 : decode prog_10_method_1_code 4 = .ok (.return_, 1) := by decide +kernel
def Q3 (Z : State) (a1 : Addr) (h0 : Heap) (n0 : Nat) (v : Option Value) (h : Heap) (L : List Loc) : Prop := v = none ∧ Fr n0 L ∧ Keep h0 h []
set_option maxRecDepth 65536 in
set_option maxHeartbeats 40000000 in
theorem rm3 (l : Launch) (Z : State) (a0 : Array Value) (hw : ∀ d ∈ tables_1, d.before a0 Z = true) (wsC : List Jvm.Cond) (a1 : Addr) (h0 : Heap) (n0 : Nat) (Z0 : n0 ≤ h0.size)  :
    MetFree l (⟨"com/example/hasten/hasten/Envelope", "<init>", "()V"⟩ : MethodName) (head1 (Jvm.Cond.code (⟨"com/example/hasten/hasten/Envelope", "<init>", "()V"⟩ : MethodName) prog_10_method_1_code 1 none :: wsC) ({ frames := 1, cells := 0, slots := 0, locals := 12 } : Room)) (fun a U => a = #[(.ref a1)] ∧ Z.Warmed39 U.vm ∧ U.heap = h0) (fun _ _ _ _ _ => True) (fun _ U o U' => ∃ v L, o = .returned v ∧ Q3 Z a1 h0 n0 v U'.heap L ∧ FrameEnd U o U' L ({ frames := 1, cells := 0, slots := 0, locals := 12 } : Room).cells ({ frames := 1, cells := 0, slots := 0, locals := 12 } : Room).slots) := by
  refine MetFree.of_bodySF (plainFor_of_name pn_2) hisR ?_
  intro p e s m args below meth c s₁ Bd hml0 hP hK
  obtain ⟨rfl, hZ, hh⟩ := hP
  have hx := Bd.exec
  have hby := Bd.bytes
  have hml : c.maxLocals = 1 := hml0
  have hown : s.vm.findClass "com/example/hasten/hasten/Envelope" = some m.cls := findClass_of_methodNamed Bd.named
  have hnm := (name_of_methodNamed Bd.named Bd.method).1
  have X0 : Stand p l e ({ frames := 1, cells := 0, slots := 0, locals := 12 } : Room) s m #[(.ref a1)] below meth c s₁ [] 0 0 := Stand.of_body Bd
  have e0 : s₁.heap = h0 := by rw [← hh, Bd.state]; rfl
  have NF := Fr.nil n0
  have KP : Keep h0 h0 [] := Keep.refl h0 _
  refine WP.go ?_
  refine WP.cast (ef_3 m a1) ?_
  refine WP.name ?_
  intro G hG
  refine WP.st (T' := s₁) (f' := (mkF m 1 #[.val (.ref a1)] [(.ref a1)])) (fun t k => ?_) ?_
  · refine XS.aloadN X0.here hx rfl (hb hby d3_0) rfl rfl ?_
    exact k
  obtain ⟨T16, X16, e16, st16⟩ := initO X0 hx hZ hown (w_18 hw) (w_19 hw) (w_20 hw) e0 (g := (mkF m 1 #[.val (.ref a1)] [(.ref a1)])) rfl (by rw [hml]; rfl) rfl (hb hby d3_1) (by decide) (W := 0) (by show 2 * 0 + _ ≤ _; exact Nat.le_of_eq rfl) (by decide)
  refine WP.st st16 ?_
  clear st16
  show WP p.tables e below _ T16 (mkF m 4 #[.val (.ref a1)] [])
  subst hG
  obtain ⟨fs, hr, hrun, hended, hW, hsame⟩ := X16.leave (v := none) (fun _ => rfl)
  refine WP.fin ⟨_, _, ?_, hrun, hended, _, _, rfl, ?_, ⟨_, rfl⟩, hW, hsame.mono (by decide) (by decide)⟩
  · exact X16.returnOut hx Bd.returns (hb hby d3_4) hr
  · show Q3 Z a1 h0 n0 _ T16.heap _
    rw [e16]
    exact ⟨rfl, NF, KP⟩
theorem ef_2 (m : MethodId) (z0 : Addr) : entryFrame m #[(.ref z0)] 1 = mkF m 0 #[.val (.ref z0)] [] := by
  all_goals first | (simp [entryFrame, mkF, argsToLocals, Value.category]; done) | rfl
theorem pn_3 : plainName "com/example/hasten/hasten/Message" = true := by first | (simp [plainName, overriddenIn]; done) | decide +kernel
theorem d2_0 : decode prog_32_method_1_code 0 = .ok (.aload_n 0, 1) := by decide +kernel
theorem w_13 {a0 : Array Value} {Z : State} (hw : ∀ d ∈ tables_1, d.before a0 Z = true) : (Jvm.Cond.methodLink "com/example/hasten/hasten/Message" (1 : Nat) ({ cls := "com/example/hasten/hasten/Envelope", name := "<init>", desc := "()V" } : Jvm.MethodName)).before a0 Z = true := hw _ (List.mem_of_getElem? (i := 13) rfl)
theorem d2_1 : decode prog_32_method_1_code 1 = .ok (.invokespecial 1, 3) := by decide +kernel
theorem w_17 {a0 : Array Value} {Z : State} (hw : ∀ d ∈ tables_1, d.before a0 Z = true) : (Jvm.Cond.code ({ cls := "com/example/hasten/hasten/Envelope", name := "<init>", desc := "()V" } : Jvm.MethodName) prog_10_method_1_code (1 : Nat) (Option.none : Option Jvm.ClassFile.FieldType)).before a0 Z = true := hw _ (List.mem_of_getElem? (i := 17) rfl)
theorem w_16 {a0 : Array Value} {Z : State} (hw : ∀ d ∈ tables_1, d.before a0 Z = true) : (Jvm.Cond.initialized "com/example/hasten/hasten/Envelope").before a0 Z = true := hw _ (List.mem_of_getElem? (i := 16) rfl)
theorem w_14 {a0 : Array Value} {Z : State} (hw : ∀ d ∈ tables_1, d.before a0 Z = true) : (Jvm.Cond.instanceMethod ({ cls := "com/example/hasten/hasten/Envelope", name := "<init>", desc := "()V" } : Jvm.MethodName)).before a0 Z = true := hw _ (List.mem_of_getElem? (i := 14) rfl)
theorem d2_4 : decode prog_32_method_1_code 4 = .ok (.return_, 1) := by decide +kernel
def Q2 (Z : State) (a1 : Addr) (h0 : Heap) (n0 : Nat) (v : Option Value) (h : Heap) (L : List Loc) : Prop := v = none ∧ Fr n0 L ∧ Keep h0 h []
set_option maxRecDepth 65536 in
set_option maxHeartbeats 40000000 in
theorem rm2 (l : Launch) (Z : State) (a0 : Array Value) (hw : ∀ d ∈ tables_1, d.before a0 Z = true) (wsC : List Jvm.Cond) (a1 : Addr) (h0 : Heap) (n0 : Nat) (Z0 : n0 ≤ h0.size)  :
    MetFree l (⟨"com/example/hasten/hasten/Message", "<init>", "()V"⟩ : MethodName) (head1 (Jvm.Cond.code (⟨"com/example/hasten/hasten/Message", "<init>", "()V"⟩ : MethodName) prog_32_method_1_code 1 none :: wsC) ({ frames := 2, cells := 0, slots := 0, locals := 24 } : Room)) (fun a U => a = #[(.ref a1)] ∧ Z.Warmed39 U.vm ∧ U.heap = h0) (fun _ _ _ _ _ => True) (fun _ U o U' => ∃ v L, o = .returned v ∧ Q2 Z a1 h0 n0 v U'.heap L ∧ FrameEnd U o U' L ({ frames := 2, cells := 0, slots := 0, locals := 24 } : Room).cells ({ frames := 2, cells := 0, slots := 0, locals := 24 } : Room).slots) := by
  refine MetFree.of_bodySF (plainFor_of_name pn_3) hisR ?_
  intro p e s m args below meth c s₁ Bd hml0 hP hK
  obtain ⟨rfl, hZ, hh⟩ := hP
  have hx := Bd.exec
  have hby := Bd.bytes
  have hml : c.maxLocals = 1 := hml0
  have hown : s.vm.findClass "com/example/hasten/hasten/Message" = some m.cls := findClass_of_methodNamed Bd.named
  have hnm := (name_of_methodNamed Bd.named Bd.method).1
  have X0 : Stand p l e ({ frames := 2, cells := 0, slots := 0, locals := 24 } : Room) s m #[(.ref a1)] below meth c s₁ [] 0 0 := Stand.of_body Bd
  have e0 : s₁.heap = h0 := by rw [← hh, Bd.state]; rfl
  have NF := Fr.nil n0
  have KP : Keep h0 h0 [] := Keep.refl h0 _
  refine WP.go ?_
  refine WP.cast (ef_2 m a1) ?_
  refine WP.name ?_
  intro G hG
  refine WP.st (T' := s₁) (f' := (mkF m 1 #[.val (.ref a1)] [(.ref a1)])) (fun t k => ?_) ?_
  · refine XS.aloadN X0.here hx rfl (hb hby d2_0) rfl rfl ?_
    exact k
  obtain ⟨_, _, ⟨T17, L17, k17, n17⟩, -, X17, ⟨Lc17, hQ17, l17, y17, z17⟩, st17⟩ := X0.specialBack hx (y := (⟨"com/example/hasten/hasten/Envelope", "<init>", "()V"⟩ : MethodName)) rfl hown (mvT hZ (w_13 hw)) (mvT hZ (w_14 hw)) (mvT hZ (w_17 hw)) (by decide) (backOf (W := 0) (rm3 l Z a0 hw [] a1 h0 n0 Z0 ) hZ (w_17 hw) (w_16 hw) (by decide) (by decide)) (g := (mkF m 1 #[.val (.ref a1)] [(.ref a1)])) rfl (by rw [hml]; rfl) (Steps.refl _) (a := a1) (argsL := []) (rest := []) (lenOf pd_0 rfl) rfl (by show 2 * 0 + _ ≤ _; exact Nat.le_of_eq rfl) (hb hby d2_1) (fun _ _ => ⟨rfl, e0, (by decide : 0 + 0 ≤ _), (by decide : 0 + 0 ≤ _)⟩)
  dsimp only [Pt.U, Pt.locs, Pt.cells, Pt.slots] at X17 l17 y17 z17 st17 hQ17
  subst l17 y17 z17
  obtain ⟨rfl, Nq17, Kq17⟩ := hQ17
  replace NF := Fr.app NF Nq17
  clear Nq17
  refine WP.tr st17 ?_
  clear st17
  obtain ⟨h17, e17⟩ : ∃ h, T17.heap = h := ⟨_, rfl⟩
  rw [e17] at Kq17
  replace Z0 := Nat.le_trans Z0 Kq17.1
  replace KP := KP.trans Kq17 all0
  clear Kq17
  have hXN : ∃ LL, Stand p l e ({ frames := 2, cells := 0, slots := 0, locals := 24 } : Room) s m #[(.ref a1)] below meth c T17 LL 0 0 ∧ Fr n0 LL := ⟨_, X17, NF⟩
  clear X17 NF
  obtain ⟨LL18, X17, NF⟩ := hXN
  show WP p.tables e below _ T17 (mkF m 4 #[.val (.ref a1)] [])
  subst hG
  obtain ⟨fs, hr, hrun, hended, hW, hsame⟩ := X17.leave (v := none) (fun _ => rfl)
  refine WP.fin ⟨_, _, ?_, hrun, hended, _, _, rfl, ?_, ⟨_, rfl⟩, hW, hsame.mono (by decide) (by decide)⟩
  · exact X17.returnOut hx Bd.returns (hb hby d2_4) hr
  · show Q2 Z a1 h0 n0 _ T17.heap _
    rw [e17]
    exact ⟨rfl, NF, KP⟩
def own_pick (k : Int32) (p q : Value) : Value := if k = 1 then p else if k = 2 then q else .null
theorem ef_5 (m : MethodId) (z0 : Int32) (z1 : Addr) (z2 : Addr) : entryFrame m #[(.int z0), (.ref z1), (.ref z2)] 3 = mkF m 0 #[.val (.int z0), .val (.ref z1), .val (.ref z2)] [] := by
  all_goals first | (simp [entryFrame, mkF, argsToLocals, Value.category]; done) | rfl
theorem pn_4 : plainName "com/example/hasten/hasten/MessageCopyFromPinLaw" = true := by first | (simp [plainName, overriddenIn]; done) | decide +kernel
theorem d5_0 : decode method_3_code 0 = .ok (.iload_n 0, 1) := by decide +kernel
theorem d5_1 : decode method_3_code 1 = .ok (.iconst 1, 1) := by decide +kernel
theorem d5_2 : decode method_3_code 2 = .ok (.if_icmp .ne 5, 3) := by decide +kernel
theorem d5_5 : decode method_3_code 5 = .ok (.aload_n 1, 1) := by decide +kernel
theorem d5_6 : decode method_3_code 6 = .ok (.areturn, 1) := by decide +kernel
theorem d5_7 : decode method_3_code 7 = .ok (.iload_n 0, 1) := by decide +kernel
theorem d5_8 : decode method_3_code 8 = .ok (.iconst 2, 1) := by decide +kernel
theorem d5_9 : decode method_3_code 9 = .ok (.if_icmp .ne 5, 3) := by decide +kernel
theorem d5_12 : decode method_3_code 12 = .ok (.aload_n 2, 1) := by decide +kernel
theorem d5_13 : decode method_3_code 13 = .ok (.areturn, 1) := by decide +kernel
theorem d5_14 : decode method_3_code 14 = .ok (.aconst_null, 1) := by decide +kernel
theorem d5_15 : decode method_3_code 15 = .ok (.areturn, 1) := by decide +kernel
def Q5 (Z : State) (p1 : Int32) (a1 : Addr) (a2 : Addr) (h0 : Heap) (n0 : Nat) (v : Option Value) (h : Heap) (L : List Loc) : Prop := v = some (own_pick p1 (.ref a1) (.ref a2)) ∧ Fr n0 L ∧ h = h0
set_option maxRecDepth 65536 in
set_option maxHeartbeats 40000000 in
theorem rm5 (l : Launch) (Z : State) (a0 : Array Value) (hw : ∀ d ∈ tables_1, d.before a0 Z = true) (wsC : List Jvm.Cond) (p1 : Int32) (a1 : Addr) (a2 : Addr) (h0 : Heap) (n0 : Nat) (Z0 : n0 ≤ h0.size)  :
    MetFree l (⟨"com/example/hasten/hasten/MessageCopyFromPinLaw", "pick", "(ILjava/lang/Object;Ljava/lang/Object;)Ljava/lang/Object;"⟩ : MethodName) (head1 (Jvm.Cond.code (⟨"com/example/hasten/hasten/MessageCopyFromPinLaw", "pick", "(ILjava/lang/Object;Ljava/lang/Object;)Ljava/lang/Object;"⟩ : MethodName) method_3_code 3 (some (.object "java/lang/Object")) :: wsC) ({ frames := 0, cells := 0, slots := 0, locals := 0 } : Room)) (fun a U => a = #[(.int p1), (.ref a1), (.ref a2)] ∧ Z.Warmed39 U.vm ∧ U.heap = h0) (fun _ _ _ _ _ => True) (fun _ U o U' => ∃ v L, o = .returned v ∧ Q5 Z p1 a1 a2 h0 n0 v U'.heap L ∧ FrameEnd U o U' L ({ frames := 0, cells := 0, slots := 0, locals := 0 } : Room).cells ({ frames := 0, cells := 0, slots := 0, locals := 0 } : Room).slots) := by
  refine MetFree.of_bodySF (plainFor_of_name pn_4) hisR ?_
  intro p e s m args below meth c s₁ Bd hml0 hP hK
  obtain ⟨rfl, hZ, hh⟩ := hP
  have hx := Bd.exec
  have hby := Bd.bytes
  have hml : c.maxLocals = 3 := hml0
  have hown : s.vm.findClass "com/example/hasten/hasten/MessageCopyFromPinLaw" = some m.cls := findClass_of_methodNamed Bd.named
  have hnm := (name_of_methodNamed Bd.named Bd.method).1
  have X0 : Stand p l e ({ frames := 0, cells := 0, slots := 0, locals := 0 } : Room) s m #[(.int p1), (.ref a1), (.ref a2)] below meth c s₁ [] 0 0 := Stand.of_body Bd
  have e0 : s₁.heap = h0 := by rw [← hh, Bd.state]; rfl
  have NF := Fr.nil n0
  refine WP.go ?_
  refine WP.cast (ef_5 m p1 a1 a2) ?_
  refine WP.name ?_
  intro G hG
  refine WP.st (T' := s₁) (f' := (mkF m 2 #[.val (.int p1), .val (.ref a1), .val (.ref a2)] [(.int (1 : Int32)), (.int p1)])) (fun t k => ?_) ?_
  · refine XS.iloadN X0.here hx rfl (hb hby d5_0) rfl ?_
    show Steps p.tables e below (s₁.setTop (mkF m 1 #[.val (.int p1), .val (.ref a1), .val (.ref a2)] [(.int p1)])) t
    refine XS.iconst X0.here hx rfl (hb hby d5_1) ?_
    exact k
  by_cases hc19 : p1 = (1 : Int32)
  · skip
    refine WP.st (T' := s₁) (f' := (mkF m 6 #[.val (.int p1), .val (.ref a1), .val (.ref a2)] [(.ref a1)])) (fun t k => ?_) ?_
    · refine XS.icmpNo X0.here hx rfl (hb hby d5_2) rfl (teq hc19).2 ?_
      show Steps p.tables e below (s₁.setTop (mkF m 5 #[.val (.int p1), .val (.ref a1), .val (.ref a2)] [])) t
      refine XS.aloadN X0.here hx rfl (hb hby d5_5) rfl rfl ?_
      exact k
    subst hG
    obtain ⟨fs, hr, hrun, hended, hW, hsame⟩ := X0.leave (v := some (.ref a1)) (fun h => by rw [Bd.returns] at h; cases h)
    refine WP.fin ⟨_, _, ?_, hrun, hended, _, _, rfl, ?_, ⟨_, rfl⟩, hW, hsame.mono (by decide) (by decide)⟩
    · exact retOut X0 hx Bd.returns rfl (Or.inr (Or.inr (Or.inr (Or.inr ⟨rfl, rfl, rfl⟩)))) (hb hby d5_6) hr
    · show Q5 Z p1 a1 a2 h0 n0 _ s₁.heap _
      rw [e0]
      exact ⟨(by simp [own_pick, hc19]), NF, rfl⟩
  · skip
    refine WP.st (T' := s₁) (f' := (mkF m 9 #[.val (.int p1), .val (.ref a1), .val (.ref a2)] [(.int (2 : Int32)), (.int p1)])) (fun t k => ?_) ?_
    · refine XS.icmpYes X0.here hx rfl (pc0 := 2) (pc' := 7) rfl (hb hby d5_2) rfl (feq hc19).2 (by decide) (by decide) ?_
      show Steps p.tables e below (s₁.setTop (mkF m 7 #[.val (.int p1), .val (.ref a1), .val (.ref a2)] [])) t
      refine XS.iloadN X0.here hx rfl (hb hby d5_7) rfl ?_
      show Steps p.tables e below (s₁.setTop (mkF m 8 #[.val (.int p1), .val (.ref a1), .val (.ref a2)] [(.int p1)])) t
      refine XS.iconst X0.here hx rfl (hb hby d5_8) ?_
      exact k
    by_cases hc20 : p1 = (2 : Int32)
    · skip
      refine WP.st (T' := s₁) (f' := (mkF m 13 #[.val (.int p1), .val (.ref a1), .val (.ref a2)] [(.ref a2)])) (fun t k => ?_) ?_
      · refine XS.icmpNo X0.here hx rfl (hb hby d5_9) rfl (teq hc20).2 ?_
        show Steps p.tables e below (s₁.setTop (mkF m 12 #[.val (.int p1), .val (.ref a1), .val (.ref a2)] [])) t
        refine XS.aloadN X0.here hx rfl (hb hby d5_12) rfl rfl ?_
        exact k
      subst hG
      obtain ⟨fs, hr, hrun, hended, hW, hsame⟩ := X0.leave (v := some (.ref a2)) (fun h => by rw [Bd.returns] at h; cases h)
      refine WP.fin ⟨_, _, ?_, hrun, hended, _, _, rfl, ?_, ⟨_, rfl⟩, hW, hsame.mono (by decide) (by decide)⟩
      · exact retOut X0 hx Bd.returns rfl (Or.inr (Or.inr (Or.inr (Or.inr ⟨rfl, rfl, rfl⟩)))) (hb hby d5_13) hr
      · show Q5 Z p1 a1 a2 h0 n0 _ s₁.heap _
        rw [e0]
        exact ⟨(by simp [own_pick, hc19, hc20]), NF, rfl⟩
    · skip
      refine WP.st (T' := s₁) (f' := (mkF m 15 #[.val (.int p1), .val (.ref a1), .val (.ref a2)] [.null])) (fun t k => ?_) ?_
      · refine XS.icmpYes X0.here hx rfl (pc0 := 9) (pc' := 14) rfl (hb hby d5_9) rfl (feq hc20).2 (by decide) (by decide) ?_
        show Steps p.tables e below (s₁.setTop (mkF m 14 #[.val (.int p1), .val (.ref a1), .val (.ref a2)] [])) t
        refine XS.aconstNull X0.here hx rfl (hb hby d5_14) ?_
        exact k
      subst hG
      obtain ⟨fs, hr, hrun, hended, hW, hsame⟩ := X0.leave (v := some .null) (fun h => by rw [Bd.returns] at h; cases h)
      refine WP.fin ⟨_, _, ?_, hrun, hended, _, _, rfl, ?_, ⟨_, rfl⟩, hW, hsame.mono (by decide) (by decide)⟩
      · exact retOut X0 hx Bd.returns rfl (Or.inr (Or.inr (Or.inr (Or.inr ⟨rfl, rfl, rfl⟩)))) (hb hby d5_15) hr
      · show Q5 Z p1 a1 a2 h0 n0 _ s₁.heap _
        rw [e0]
        exact ⟨(by simp [own_pick, hc19, hc20]), NF, rfl⟩
theorem ef_6 (m : MethodId) (z0 : Addr) (z1 : Int32) : entryFrame m #[(.ref z0), (.int z1)] 2 = mkF m 0 #[.val (.ref z0), .val (.int z1)] [] := by
  all_goals first | (simp [entryFrame, mkF, argsToLocals, Value.category]; done) | rfl
theorem d6_0 : decode prog_32_method_14_code 0 = .ok (.aload_n 0, 1) := by decide +kernel
theorem d6_1 : decode prog_32_method_14_code 1 = .ok (.iload_n 1, 1) := by decide +kernel
theorem w_38 {a0 : Array Value} {Z : State} (hw : ∀ d ∈ tables_1, d.before a0 Z = true) : (Jvm.Cond.fieldLink "com/example/hasten/hasten/Message" (47 : Nat) "com/example/hasten/hasten/Message" "asynchronous" "Z").before a0 Z = true := hw _ (List.mem_of_getElem? (i := 38) rfl)
theorem w_39 {a0 : Array Value} {Z : State} (hw : ∀ d ∈ tables_1, d.before a0 Z = true) : (Jvm.Cond.sameField "com/example/hasten/hasten/Message" "com/example/hasten/hasten/Envelope" "asynchronous" "Z").before a0 Z = true := hw _ (List.mem_of_getElem? (i := 39) rfl)
theorem w_40 {a0 : Array Value} {Z : State} (hw : ∀ d ∈ tables_1, d.before a0 Z = true) : (Jvm.Cond.lays "com/example/hasten/hasten/Message" "com/example/hasten/hasten/Envelope" "asynchronous" "Z").before a0 Z = true := hw _ (List.mem_of_getElem? (i := 40) rfl)
theorem w_8 {a0 : Array Value} {Z : State} (hw : ∀ d ∈ tables_1, d.before a0 Z = true) : (Jvm.Cond.instantiable "com/example/hasten/hasten/Message" (14 : Nat)).before a0 Z = true := hw _ (List.mem_of_getElem? (i := 8) rfl)
theorem d6_2 : decode prog_32_method_14_code 2 = .ok (.putfield 47, 3) := by decide +kernel
theorem w_26 {a0 : Array Value} {Z : State} (hw : ∀ d ∈ tables_1, d.before a0 Z = true) : (Jvm.Cond.lays "com/example/hasten/hasten/Message" "com/example/hasten/hasten/Message" "what" "I").before a0 Z = true := hw _ (List.mem_of_getElem? (i := 26) rfl)
theorem sn_0 {a0 : Array Value} {Z : State} (hw : ∀ d ∈ tables_1, d.before a0 Z = true) : Jvm.RoadKit.slotOf Z "com/example/hasten/hasten/Message" "what" "I" ≠ Jvm.RoadKit.slotOf Z "com/example/hasten/hasten/Envelope" "asynchronous" "Z" := slot_ne (Or.inl (w_26 hw)) (Or.inl (w_40 hw)) (by decide) (t := .int) (t' := .boolean) (by decide) (by decide)
theorem w_28 {a0 : Array Value} {Z : State} (hw : ∀ d ∈ tables_1, d.before a0 Z = true) : (Jvm.Cond.lays "com/example/hasten/hasten/Message" "com/example/hasten/hasten/Message" "arg1" "I").before a0 Z = true := hw _ (List.mem_of_getElem? (i := 28) rfl)
theorem sn_1 {a0 : Array Value} {Z : State} (hw : ∀ d ∈ tables_1, d.before a0 Z = true) : Jvm.RoadKit.slotOf Z "com/example/hasten/hasten/Message" "arg1" "I" ≠ Jvm.RoadKit.slotOf Z "com/example/hasten/hasten/Envelope" "asynchronous" "Z" := slot_ne (Or.inl (w_28 hw)) (Or.inl (w_40 hw)) (by decide) (t := .int) (t' := .boolean) (by decide) (by decide)
theorem w_30 {a0 : Array Value} {Z : State} (hw : ∀ d ∈ tables_1, d.before a0 Z = true) : (Jvm.Cond.lays "com/example/hasten/hasten/Message" "com/example/hasten/hasten/Message" "arg2" "I").before a0 Z = true := hw _ (List.mem_of_getElem? (i := 30) rfl)
theorem sn_2 {a0 : Array Value} {Z : State} (hw : ∀ d ∈ tables_1, d.before a0 Z = true) : Jvm.RoadKit.slotOf Z "com/example/hasten/hasten/Message" "arg2" "I" ≠ Jvm.RoadKit.slotOf Z "com/example/hasten/hasten/Envelope" "asynchronous" "Z" := slot_ne (Or.inl (w_30 hw)) (Or.inl (w_40 hw)) (by decide) (t := .int) (t' := .boolean) (by decide) (by decide)
theorem w_32 {a0 : Array Value} {Z : State} (hw : ∀ d ∈ tables_1, d.before a0 Z = true) : (Jvm.Cond.lays "com/example/hasten/hasten/Message" "com/example/hasten/hasten/Message" "obj" "Ljava/lang/Object;").before a0 Z = true := hw _ (List.mem_of_getElem? (i := 32) rfl)
theorem sn_3 {a0 : Array Value} {Z : State} (hw : ∀ d ∈ tables_1, d.before a0 Z = true) : Jvm.RoadKit.slotOf Z "com/example/hasten/hasten/Message" "obj" "Ljava/lang/Object;" ≠ Jvm.RoadKit.slotOf Z "com/example/hasten/hasten/Envelope" "asynchronous" "Z" := slot_ne (Or.inl (w_32 hw)) (Or.inl (w_40 hw)) (by decide) (t := (.object "java/lang/Object")) (t' := .boolean) (by decide) (by decide)
theorem w_43 {a0 : Array Value} {Z : State} (hw : ∀ d ∈ tables_1, d.before a0 Z = true) : (Jvm.Cond.lays "com/example/hasten/hasten/Message" "com/example/hasten/hasten/Envelope" "when" "J").before a0 Z = true := hw _ (List.mem_of_getElem? (i := 43) rfl)
theorem sn_4 {a0 : Array Value} {Z : State} (hw : ∀ d ∈ tables_1, d.before a0 Z = true) : Jvm.RoadKit.slotOf Z "com/example/hasten/hasten/Envelope" "when" "J" ≠ Jvm.RoadKit.slotOf Z "com/example/hasten/hasten/Envelope" "asynchronous" "Z" := slot_ne (Or.inl (w_43 hw)) (Or.inl (w_40 hw)) (by decide) (t := .long) (t' := .boolean) (by decide) (by decide)
theorem w_72 {a0 : Array Value} {Z : State} (hw : ∀ d ∈ tables_1, d.before a0 Z = true) : (Jvm.Cond.lays "com/example/hasten/hasten/Message" "com/example/hasten/hasten/Envelope" "callback" "Ljava/lang/Runnable;").before a0 Z = true := hw _ (List.mem_of_getElem? (i := 72) rfl)
theorem sn_5 {a0 : Array Value} {Z : State} (hw : ∀ d ∈ tables_1, d.before a0 Z = true) : Jvm.RoadKit.slotOf Z "com/example/hasten/hasten/Envelope" "callback" "Ljava/lang/Runnable;" ≠ Jvm.RoadKit.slotOf Z "com/example/hasten/hasten/Envelope" "asynchronous" "Z" := slot_ne (Or.inl (w_72 hw)) (Or.inl (w_40 hw)) (by decide) (t := (.object "java/lang/Runnable")) (t' := .boolean) (by decide) (by decide)
theorem d6_5 : decode prog_32_method_14_code 5 = .ok (.return_, 1) := by decide +kernel
def Q6 (Z : State) (a1 : Addr) (p1 : Int32) (u_what : Int32) (u_arg1 : Int32) (u_arg2 : Int32) (u_obj : Value) (u_asynchronous : Int32) (u_when : Int64) (u_callback : Value) (h0 : Heap) (n0 : Nat) (v : Option Value) (h : Heap) (L : List Loc) : Prop := v = none ∧ Fr n0 L ∧ Keep h0 h [a1] ∧ Fld Z h a1 "com/example/hasten/hasten/Message" "what" "I" (.int u_what) ∧ Fld Z h a1 "com/example/hasten/hasten/Message" "arg1" "I" (.int u_arg1) ∧ Fld Z h a1 "com/example/hasten/hasten/Message" "arg2" "I" (.int u_arg2) ∧ Fld Z h a1 "com/example/hasten/hasten/Message" "obj" "Ljava/lang/Object;" u_obj ∧ Fld Z h a1 "com/example/hasten/hasten/Envelope" "asynchronous" "Z" (.int p1) ∧ Fld Z h a1 "com/example/hasten/hasten/Envelope" "when" "J" (.long u_when) ∧ Fld Z h a1 "com/example/hasten/hasten/Envelope" "callback" "Ljava/lang/Runnable;" u_callback
set_option maxRecDepth 65536 in
set_option maxHeartbeats 40000000 in
theorem rm6 (l : Launch) (Z : State) (a0 : Array Value) (hw : ∀ d ∈ tables_1, d.before a0 Z = true) (wsC : List Jvm.Cond) (a1 : Addr) (p1 : Int32) (u_what : Int32) (u_arg1 : Int32) (u_arg2 : Int32) (u_obj : Value) (u_asynchronous : Int32) (u_when : Int64) (u_callback : Value) (h0 : Heap) (n0 : Nat) (Z0 : n0 ≤ h0.size) (E_a1 : Exa Z h0 a1 "com/example/hasten/hasten/Message") (g_a1 : n0 ≤ a1) (F_a1_what : Fld Z h0 a1 "com/example/hasten/hasten/Message" "what" "I" (.int u_what)) (F_a1_arg1 : Fld Z h0 a1 "com/example/hasten/hasten/Message" "arg1" "I" (.int u_arg1)) (F_a1_arg2 : Fld Z h0 a1 "com/example/hasten/hasten/Message" "arg2" "I" (.int u_arg2)) (F_a1_obj : Fld Z h0 a1 "com/example/hasten/hasten/Message" "obj" "Ljava/lang/Object;" u_obj) (F_a1_asynchronous : Fld Z h0 a1 "com/example/hasten/hasten/Envelope" "asynchronous" "Z" (.int u_asynchronous)) (F_a1_when : Fld Z h0 a1 "com/example/hasten/hasten/Envelope" "when" "J" (.long u_when)) (F_a1_callback : Fld Z h0 a1 "com/example/hasten/hasten/Envelope" "callback" "Ljava/lang/Runnable;" u_callback) (h01 : p1 = 0 ∨ p1 = 1) :
    MetFree l (⟨"com/example/hasten/hasten/Message", "setAsynchronous", "(Z)V"⟩ : MethodName) (head1 (Jvm.Cond.code (⟨"com/example/hasten/hasten/Message", "setAsynchronous", "(Z)V"⟩ : MethodName) prog_32_method_14_code 2 none :: wsC) ({ frames := 0, cells := 0, slots := 0, locals := 0 } : Room)) (fun a U => a = #[(.ref a1), (.int p1)] ∧ Z.Warmed39 U.vm ∧ U.heap = h0) (fun _ _ _ _ _ => True) (fun _ U o U' => ∃ v L, o = .returned v ∧ Q6 Z a1 p1 u_what u_arg1 u_arg2 u_obj u_asynchronous u_when u_callback h0 n0 v U'.heap L ∧ FrameEnd U o U' L ({ frames := 0, cells := 0, slots := 0, locals := 0 } : Room).cells ({ frames := 0, cells := 0, slots := 0, locals := 0 } : Room).slots) := by
  refine MetFree.of_bodySF (plainFor_of_name pn_3) hisR ?_
  intro p e s m args below meth c s₁ Bd hml0 hP hK
  obtain ⟨rfl, hZ, hh⟩ := hP
  have hx := Bd.exec
  have hby := Bd.bytes
  have hml : c.maxLocals = 2 := hml0
  have hown : s.vm.findClass "com/example/hasten/hasten/Message" = some m.cls := findClass_of_methodNamed Bd.named
  have hnm := (name_of_methodNamed Bd.named Bd.method).1
  have X0 : Stand p l e ({ frames := 0, cells := 0, slots := 0, locals := 0 } : Room) s m #[(.ref a1), (.int p1)] below meth c s₁ [] 0 0 := Stand.of_body Bd
  have e0 : s₁.heap = h0 := by rw [← hh, Bd.state]; rfl
  have NF := Fr.nil n0
  have KP : Keep h0 h0 [a1] := Keep.refl h0 _
  refine WP.go ?_
  refine WP.cast (ef_6 m a1 p1) ?_
  refine WP.name ?_
  intro G hG
  refine WP.st (T' := s₁) (f' := (mkF m 2 #[.val (.ref a1), .val (.int p1)] [(.int p1), (.ref a1)])) (fun t k => ?_) ?_
  · refine XS.aloadN X0.here hx rfl (hb hby d6_0) rfl rfl ?_
    show Steps p.tables e below (s₁.setTop (mkF m 1 #[.val (.ref a1), .val (.int p1)] [(.ref a1)])) t
    refine XS.iloadN X0.here hx rfl (hb hby d6_1) rfl ?_
    exact k
  obtain ⟨T21, h21, X21, e21, W21, st21⟩ := putFN X0 hx hZ hown (w_38 hw) (Via.of (w_39 hw)) e0 F_a1_asynchronous E_a1 (Or.inl (w_40 hw)) (w_8 hw) (ty := .boolean) (v := (.int p1)) (v' := (.int p1)) (by decide) (congrArg Value.int (nar01 h01)) (ownFits (t := .boolean) (x := p1) (congrArg Value.int (nar01 h01)) (fits_nar_bool _)) (g := (mkF m 2 #[.val (.ref a1), .val (.int p1)] [(.int p1), (.ref a1)])) rfl rfl (hb hby d6_2)
  refine WP.st st21 ?_
  clear st21
  replace E_a1 := E_a1.wr W21
  replace F_a1_what := F_a1_what.other W21 (Or.inr (sn_0 hw))
  replace F_a1_arg1 := F_a1_arg1.other W21 (Or.inr (sn_1 hw))
  replace F_a1_arg2 := F_a1_arg2.other W21 (Or.inr (sn_2 hw))
  replace F_a1_obj := F_a1_obj.other W21 (Or.inr (sn_3 hw))
  replace F_a1_asynchronous := F_a1_asynchronous.same W21
  replace F_a1_when := F_a1_when.other W21 (Or.inr (sn_4 hw))
  replace F_a1_callback := F_a1_callback.other W21 (Or.inr (sn_5 hw))
  replace Z0 := Nat.le_trans Z0 (Keep.of_wr W21).1
  replace KP := KP.wr W21 (Or.inl (List.mem_of_getElem? (i := 0) rfl))
  replace NF := Fr.snoc X21 NF g_a1
  clear W21
  have hXN : ∃ LL, Stand p l e ({ frames := 0, cells := 0, slots := 0, locals := 0 } : Room) s m #[(.ref a1), (.int p1)] below meth c T21 LL 0 0 ∧ Fr n0 LL := ⟨_, X21, NF⟩
  clear X21 NF
  obtain ⟨LL22, X21, NF⟩ := hXN
  show WP p.tables e below _ T21 (mkF m 5 #[.val (.ref a1), .val (.int p1)] [])
  subst hG
  obtain ⟨fs, hr, hrun, hended, hW, hsame⟩ := X21.leave (v := none) (fun _ => rfl)
  refine WP.fin ⟨_, _, ?_, hrun, hended, _, _, rfl, ?_, ⟨_, rfl⟩, hW, hsame.mono (by decide) (by decide)⟩
  · exact X21.returnOut hx Bd.returns (hb hby d6_5) hr
  · show Q6 Z a1 p1 u_what u_arg1 u_arg2 u_obj u_asynchronous u_when u_callback h0 n0 _ T21.heap _
    rw [e21]
    exact ⟨rfl, NF, KP, F_a1_what, F_a1_arg1, F_a1_arg2, F_a1_obj, F_a1_asynchronous, F_a1_when, F_a1_callback⟩
theorem ef_7 (m : MethodId) (z0 : Addr) : entryFrame m #[(.ref z0)] 1 = mkF m 0 #[.val (.ref z0)] [] := by
  all_goals first | (simp [entryFrame, mkF, argsToLocals, Value.category]; done) | rfl
theorem d7_0 : decode prog_32_method_12_code 0 = .ok (.aload_n 0, 1) := by decide +kernel
theorem w_50 {a0 : Array Value} {Z : State} (hw : ∀ d ∈ tables_1, d.before a0 Z = true) : (Jvm.Cond.fieldLink "com/example/hasten/hasten/Message" (43 : Nat) "com/example/hasten/hasten/Message" "when" "J").before a0 Z = true := hw _ (List.mem_of_getElem? (i := 50) rfl)
theorem w_42 {a0 : Array Value} {Z : State} (hw : ∀ d ∈ tables_1, d.before a0 Z = true) : (Jvm.Cond.sameField "com/example/hasten/hasten/Message" "com/example/hasten/hasten/Envelope" "when" "J").before a0 Z = true := hw _ (List.mem_of_getElem? (i := 42) rfl)
theorem d7_1 : decode prog_32_method_12_code 1 = .ok (.getfield 43, 3) := by decide +kernel
theorem d7_4 : decode prog_32_method_12_code 4 = .ok (.lreturn, 1) := by decide +kernel
def Q7 (Z : State) (a1 : Addr) (u_when : Int64) (h0 : Heap) (n0 : Nat) (v : Option Value) (h : Heap) (L : List Loc) : Prop := v = some (.long u_when) ∧ Fr n0 L ∧ h = h0
set_option maxRecDepth 65536 in
set_option maxHeartbeats 40000000 in
theorem rm7 (l : Launch) (Z : State) (a0 : Array Value) (hw : ∀ d ∈ tables_1, d.before a0 Z = true) (wsC : List Jvm.Cond) (a1 : Addr) (u_when : Int64) (h0 : Heap) (n0 : Nat) (Z0 : n0 ≤ h0.size) (F_a1_when : Fld Z h0 a1 "com/example/hasten/hasten/Envelope" "when" "J" (.long u_when)) :
    MetFree l (⟨"com/example/hasten/hasten/Message", "getWhen", "()J"⟩ : MethodName) (head1 (Jvm.Cond.code (⟨"com/example/hasten/hasten/Message", "getWhen", "()J"⟩ : MethodName) prog_32_method_12_code 1 (some .long) :: wsC) ({ frames := 0, cells := 0, slots := 0, locals := 0 } : Room)) (fun a U => a = #[(.ref a1)] ∧ Z.Warmed39 U.vm ∧ U.heap = h0) (fun _ _ _ _ _ => True) (fun _ U o U' => ∃ v L, o = .returned v ∧ Q7 Z a1 u_when h0 n0 v U'.heap L ∧ FrameEnd U o U' L ({ frames := 0, cells := 0, slots := 0, locals := 0 } : Room).cells ({ frames := 0, cells := 0, slots := 0, locals := 0 } : Room).slots) := by
  refine MetFree.of_bodySF (plainFor_of_name pn_3) hisR ?_
  intro p e s m args below meth c s₁ Bd hml0 hP hK
  obtain ⟨rfl, hZ, hh⟩ := hP
  have hx := Bd.exec
  have hby := Bd.bytes
  have hml : c.maxLocals = 1 := hml0
  have hown : s.vm.findClass "com/example/hasten/hasten/Message" = some m.cls := findClass_of_methodNamed Bd.named
  have hnm := (name_of_methodNamed Bd.named Bd.method).1
  have X0 : Stand p l e ({ frames := 0, cells := 0, slots := 0, locals := 0 } : Room) s m #[(.ref a1)] below meth c s₁ [] 0 0 := Stand.of_body Bd
  have e0 : s₁.heap = h0 := by rw [← hh, Bd.state]; rfl
  have NF := Fr.nil n0
  refine WP.go ?_
  refine WP.cast (ef_7 m a1) ?_
  refine WP.name ?_
  intro G hG
  refine WP.st (T' := s₁) (f' := (mkF m 1 #[.val (.ref a1)] [(.ref a1)])) (fun t k => ?_) ?_
  · refine XS.aloadN X0.here hx rfl (hb hby d7_0) rfl rfl ?_
    exact k
  obtain ⟨T23, X23, e23, st23⟩ := getF X0 hx hZ hown (host := "") (Or.inl (w_50 hw)) (Via.of (w_42 hw)) e0 F_a1_when (g := (mkF m 1 #[.val (.ref a1)] [(.ref a1)])) rfl rfl (hb hby d7_1)
  refine WP.st st23 ?_
  clear st23
  show WP p.tables e below _ T23 (mkF m 4 #[.val (.ref a1)] [(.long u_when)])
  subst hG
  obtain ⟨fs, hr, hrun, hended, hW, hsame⟩ := X23.leave (v := some (.long u_when)) (fun h => by rw [Bd.returns] at h; cases h)
  refine WP.fin ⟨_, _, ?_, hrun, hended, _, _, rfl, ?_, ⟨_, rfl⟩, hW, hsame.mono (by decide) (by decide)⟩
  · exact X23.lreturnOut hx Bd.returns (hb hby d7_4) hr
  · show Q7 Z a1 u_when h0 n0 _ T23.heap _
    rw [e23]
    exact ⟨rfl, NF, rfl⟩
theorem ef_9 (m : MethodId) (z0 : Addr) : entryFrame m #[(.ref z0)] 1 = mkF m 0 #[.val (.ref z0)] [] := by
  all_goals first | (simp [entryFrame, mkF, argsToLocals, Value.category]; done) | rfl
theorem d9_0 : decode prog_32_method_13_code 0 = .ok (.aload_n 0, 1) := by decide +kernel
theorem d9_1 : decode prog_32_method_13_code 1 = .ok (.getfield 47, 3) := by decide +kernel
theorem d9_4 : decode prog_32_method_13_code 4 = .ok (.ireturn, 1) := by decide +kernel
def Q9 (Z : State) (a1 : Addr) (u_asynchronous : Int32) (h0 : Heap) (n0 : Nat) (v : Option Value) (h : Heap) (L : List Loc) : Prop := v = some (.int (nar .boolean u_asynchronous)) ∧ Fr n0 L ∧ h = h0
set_option maxRecDepth 65536 in
set_option maxHeartbeats 40000000 in
theorem rm9 (l : Launch) (Z : State) (a0 : Array Value) (hw : ∀ d ∈ tables_1, d.before a0 Z = true) (wsC : List Jvm.Cond) (a1 : Addr) (u_asynchronous : Int32) (h0 : Heap) (n0 : Nat) (Z0 : n0 ≤ h0.size) (F_a1_asynchronous : Fld Z h0 a1 "com/example/hasten/hasten/Envelope" "asynchronous" "Z" (.int u_asynchronous)) :
    MetFree l (⟨"com/example/hasten/hasten/Message", "isAsynchronous", "()Z"⟩ : MethodName) (head1 (Jvm.Cond.code (⟨"com/example/hasten/hasten/Message", "isAsynchronous", "()Z"⟩ : MethodName) prog_32_method_13_code 1 (some .boolean) :: wsC) ({ frames := 0, cells := 0, slots := 0, locals := 0 } : Room)) (fun a U => a = #[(.ref a1)] ∧ Z.Warmed39 U.vm ∧ U.heap = h0) (fun _ _ _ _ _ => True) (fun _ U o U' => ∃ v L, o = .returned v ∧ Q9 Z a1 u_asynchronous h0 n0 v U'.heap L ∧ FrameEnd U o U' L ({ frames := 0, cells := 0, slots := 0, locals := 0 } : Room).cells ({ frames := 0, cells := 0, slots := 0, locals := 0 } : Room).slots) := by
  refine MetFree.of_bodySF (plainFor_of_name pn_3) hisR ?_
  intro p e s m args below meth c s₁ Bd hml0 hP hK
  obtain ⟨rfl, hZ, hh⟩ := hP
  have hx := Bd.exec
  have hby := Bd.bytes
  have hml : c.maxLocals = 1 := hml0
  have hown : s.vm.findClass "com/example/hasten/hasten/Message" = some m.cls := findClass_of_methodNamed Bd.named
  have hnm := (name_of_methodNamed Bd.named Bd.method).1
  have X0 : Stand p l e ({ frames := 0, cells := 0, slots := 0, locals := 0 } : Room) s m #[(.ref a1)] below meth c s₁ [] 0 0 := Stand.of_body Bd
  have e0 : s₁.heap = h0 := by rw [← hh, Bd.state]; rfl
  have NF := Fr.nil n0
  refine WP.go ?_
  refine WP.cast (ef_9 m a1) ?_
  refine WP.name ?_
  intro G hG
  refine WP.st (T' := s₁) (f' := (mkF m 1 #[.val (.ref a1)] [(.ref a1)])) (fun t k => ?_) ?_
  · refine XS.aloadN X0.here hx rfl (hb hby d9_0) rfl rfl ?_
    exact k
  obtain ⟨T24, X24, e24, st24⟩ := getF X0 hx hZ hown (host := "") (Or.inl (w_38 hw)) (Via.of (w_39 hw)) e0 F_a1_asynchronous (g := (mkF m 1 #[.val (.ref a1)] [(.ref a1)])) rfl rfl (hb hby d9_1)
  refine WP.st st24 ?_
  clear st24
  show WP p.tables e below _ T24 (mkF m 4 #[.val (.ref a1)] [(.int u_asynchronous)])
  subst hG
  obtain ⟨fs, hr, hrun, hended, hW, hsame⟩ := X24.leave (v := some (.int (nar .boolean u_asynchronous))) (fun h => by rw [Bd.returns] at h; cases h)
  refine WP.fin ⟨_, _, ?_, hrun, hended, _, _, rfl, ?_, ⟨_, rfl⟩, hW, hsame.mono (by decide) (by decide)⟩
  · exact retN X24 hx (t := .boolean) Bd.returns (by simp) (hb hby d9_4) hr
  · show Q9 Z a1 u_asynchronous h0 n0 _ T24.heap _
    rw [e24]
    exact ⟨rfl, NF, rfl⟩
theorem ef_10 (m : MethodId) (z0 : Addr) : entryFrame m #[(.ref z0)] 1 = mkF m 0 #[.val (.ref z0)] [] := by
  all_goals first | (simp [entryFrame, mkF, argsToLocals, Value.category]; done) | rfl
theorem d10_0 : decode prog_32_method_18_code 0 = .ok (.aload_n 0, 1) := by decide +kernel
theorem w_70 {a0 : Array Value} {Z : State} (hw : ∀ d ∈ tables_1, d.before a0 Z = true) : (Jvm.Cond.fieldLink "com/example/hasten/hasten/Message" (18 : Nat) "com/example/hasten/hasten/Message" "callback" "Ljava/lang/Runnable;").before a0 Z = true := hw _ (List.mem_of_getElem? (i := 70) rfl)
theorem w_71 {a0 : Array Value} {Z : State} (hw : ∀ d ∈ tables_1, d.before a0 Z = true) : (Jvm.Cond.sameField "com/example/hasten/hasten/Message" "com/example/hasten/hasten/Envelope" "callback" "Ljava/lang/Runnable;").before a0 Z = true := hw _ (List.mem_of_getElem? (i := 71) rfl)
theorem d10_1 : decode prog_32_method_18_code 1 = .ok (.getfield 18, 3) := by decide +kernel
theorem d10_4 : decode prog_32_method_18_code 4 = .ok (.areturn, 1) := by decide +kernel
def Q10 (Z : State) (a1 : Addr) (h0 : Heap) (n0 : Nat) (v : Option Value) (h : Heap) (L : List Loc) : Prop := v = some .null ∧ Fr n0 L ∧ h = h0
set_option maxRecDepth 65536 in
set_option maxHeartbeats 40000000 in
theorem rm10 (l : Launch) (Z : State) (a0 : Array Value) (hw : ∀ d ∈ tables_1, d.before a0 Z = true) (wsC : List Jvm.Cond) (a1 : Addr) (h0 : Heap) (n0 : Nat) (Z0 : n0 ≤ h0.size) (F_a1_callback : Fld Z h0 a1 "com/example/hasten/hasten/Envelope" "callback" "Ljava/lang/Runnable;" .null) :
    MetFree l (⟨"com/example/hasten/hasten/Message", "getCallback", "()Ljava/lang/Runnable;"⟩ : MethodName) (head1 (Jvm.Cond.code (⟨"com/example/hasten/hasten/Message", "getCallback", "()Ljava/lang/Runnable;"⟩ : MethodName) prog_32_method_18_code 1 (some (.object "java/lang/Runnable")) :: wsC) ({ frames := 0, cells := 0, slots := 0, locals := 0 } : Room)) (fun a U => a = #[(.ref a1)] ∧ Z.Warmed39 U.vm ∧ U.heap = h0) (fun _ _ _ _ _ => True) (fun _ U o U' => ∃ v L, o = .returned v ∧ Q10 Z a1 h0 n0 v U'.heap L ∧ FrameEnd U o U' L ({ frames := 0, cells := 0, slots := 0, locals := 0 } : Room).cells ({ frames := 0, cells := 0, slots := 0, locals := 0 } : Room).slots) := by
  refine MetFree.of_bodySF (plainFor_of_name pn_3) hisR ?_
  intro p e s m args below meth c s₁ Bd hml0 hP hK
  obtain ⟨rfl, hZ, hh⟩ := hP
  have hx := Bd.exec
  have hby := Bd.bytes
  have hml : c.maxLocals = 1 := hml0
  have hown : s.vm.findClass "com/example/hasten/hasten/Message" = some m.cls := findClass_of_methodNamed Bd.named
  have hnm := (name_of_methodNamed Bd.named Bd.method).1
  have X0 : Stand p l e ({ frames := 0, cells := 0, slots := 0, locals := 0 } : Room) s m #[(.ref a1)] below meth c s₁ [] 0 0 := Stand.of_body Bd
  have e0 : s₁.heap = h0 := by rw [← hh, Bd.state]; rfl
  have NF := Fr.nil n0
  refine WP.go ?_
  refine WP.cast (ef_10 m a1) ?_
  refine WP.name ?_
  intro G hG
  refine WP.st (T' := s₁) (f' := (mkF m 1 #[.val (.ref a1)] [(.ref a1)])) (fun t k => ?_) ?_
  · refine XS.aloadN X0.here hx rfl (hb hby d10_0) rfl rfl ?_
    exact k
  obtain ⟨T25, X25, e25, st25⟩ := getF X0 hx hZ hown (host := "") (Or.inl (w_70 hw)) (Via.of (w_71 hw)) e0 F_a1_callback (g := (mkF m 1 #[.val (.ref a1)] [(.ref a1)])) rfl rfl (hb hby d10_1)
  refine WP.st st25 ?_
  clear st25
  show WP p.tables e below _ T25 (mkF m 4 #[.val (.ref a1)] [.null])
  subst hG
  obtain ⟨fs, hr, hrun, hended, hW, hsame⟩ := X25.leave (v := some .null) (fun h => by rw [Bd.returns] at h; cases h)
  refine WP.fin ⟨_, _, ?_, hrun, hended, _, _, rfl, ?_, ⟨_, rfl⟩, hW, hsame.mono (by decide) (by decide)⟩
  · exact retOut X25 hx Bd.returns rfl (Or.inr (Or.inr (Or.inr (Or.inr ⟨rfl, rfl, rfl⟩)))) (hb hby d10_4) hr
  · show Q10 Z a1 h0 n0 _ T25.heap _
    rw [e25]
    exact ⟨rfl, NF, rfl⟩
theorem ef_8two (m : MethodId) (z0 : Addr) (z1 : Addr) : entryFrame m #[(.ref z0), (.ref z1)] 2 = mkF m 0 #[.val (.ref z0), .val (.ref z1)] [] := by
  all_goals first | (simp [entryFrame, mkF, argsToLocals, Value.category]; done) | rfl
theorem d8_0 : decode prog_32_method_15_code 0 = .ok (.aload_n 0, 1) := by decide +kernel
theorem d8_1 : decode prog_32_method_15_code 1 = .ok (.aload_n 1, 1) := by decide +kernel
theorem w_56 {a0 : Array Value} {Z : State} (hw : ∀ d ∈ tables_1, d.before a0 Z = true) : (Jvm.Cond.fieldLink "com/example/hasten/hasten/Message" (25 : Nat) "com/example/hasten/hasten/Message" "what" "I").before a0 Z = true := hw _ (List.mem_of_getElem? (i := 56) rfl)
theorem d8_2 : decode prog_32_method_15_code 2 = .ok (.getfield 25, 3) := by decide +kernel
theorem d8_5 : decode prog_32_method_15_code 5 = .ok (.putfield 25, 3) := by decide +kernel
theorem sn_6 {a0 : Array Value} {Z : State} (hw : ∀ d ∈ tables_1, d.before a0 Z = true) : Jvm.RoadKit.slotOf Z "com/example/hasten/hasten/Message" "arg1" "I" ≠ Jvm.RoadKit.slotOf Z "com/example/hasten/hasten/Message" "what" "I" := slot_ne (Or.inl (w_28 hw)) (Or.inl (w_26 hw)) (by decide) (t := .int) (t' := .int) (by decide) (by decide)
theorem sn_7 {a0 : Array Value} {Z : State} (hw : ∀ d ∈ tables_1, d.before a0 Z = true) : Jvm.RoadKit.slotOf Z "com/example/hasten/hasten/Message" "arg2" "I" ≠ Jvm.RoadKit.slotOf Z "com/example/hasten/hasten/Message" "what" "I" := slot_ne (Or.inl (w_30 hw)) (Or.inl (w_26 hw)) (by decide) (t := .int) (t' := .int) (by decide) (by decide)
theorem sn_8 {a0 : Array Value} {Z : State} (hw : ∀ d ∈ tables_1, d.before a0 Z = true) : Jvm.RoadKit.slotOf Z "com/example/hasten/hasten/Message" "obj" "Ljava/lang/Object;" ≠ Jvm.RoadKit.slotOf Z "com/example/hasten/hasten/Message" "what" "I" := slot_ne (Or.inl (w_32 hw)) (Or.inl (w_26 hw)) (by decide) (t := (.object "java/lang/Object")) (t' := .int) (by decide) (by decide)
theorem sn_9 {a0 : Array Value} {Z : State} (hw : ∀ d ∈ tables_1, d.before a0 Z = true) : Jvm.RoadKit.slotOf Z "com/example/hasten/hasten/Envelope" "asynchronous" "Z" ≠ Jvm.RoadKit.slotOf Z "com/example/hasten/hasten/Message" "what" "I" := slot_ne (Or.inl (w_40 hw)) (Or.inl (w_26 hw)) (by decide) (t := .boolean) (t' := .int) (by decide) (by decide)
theorem sn_10 {a0 : Array Value} {Z : State} (hw : ∀ d ∈ tables_1, d.before a0 Z = true) : Jvm.RoadKit.slotOf Z "com/example/hasten/hasten/Envelope" "when" "J" ≠ Jvm.RoadKit.slotOf Z "com/example/hasten/hasten/Message" "what" "I" := slot_ne (Or.inl (w_43 hw)) (Or.inl (w_26 hw)) (by decide) (t := .long) (t' := .int) (by decide) (by decide)
theorem sn_11 {a0 : Array Value} {Z : State} (hw : ∀ d ∈ tables_1, d.before a0 Z = true) : Jvm.RoadKit.slotOf Z "com/example/hasten/hasten/Envelope" "callback" "Ljava/lang/Runnable;" ≠ Jvm.RoadKit.slotOf Z "com/example/hasten/hasten/Message" "what" "I" := slot_ne (Or.inl (w_72 hw)) (Or.inl (w_26 hw)) (by decide) (t := (.object "java/lang/Runnable")) (t' := .int) (by decide) (by decide)
theorem d8_8 : decode prog_32_method_15_code 8 = .ok (.aload_n 0, 1) := by decide +kernel
theorem d8_9 : decode prog_32_method_15_code 9 = .ok (.aload_n 1, 1) := by decide +kernel
theorem w_57 {a0 : Array Value} {Z : State} (hw : ∀ d ∈ tables_1, d.before a0 Z = true) : (Jvm.Cond.fieldLink "com/example/hasten/hasten/Message" (29 : Nat) "com/example/hasten/hasten/Message" "arg1" "I").before a0 Z = true := hw _ (List.mem_of_getElem? (i := 57) rfl)
theorem d8_10 : decode prog_32_method_15_code 10 = .ok (.getfield 29, 3) := by decide +kernel
theorem d8_13 : decode prog_32_method_15_code 13 = .ok (.putfield 29, 3) := by decide +kernel
theorem sn_12 {a0 : Array Value} {Z : State} (hw : ∀ d ∈ tables_1, d.before a0 Z = true) : Jvm.RoadKit.slotOf Z "com/example/hasten/hasten/Message" "what" "I" ≠ Jvm.RoadKit.slotOf Z "com/example/hasten/hasten/Message" "arg1" "I" := slot_ne (Or.inl (w_26 hw)) (Or.inl (w_28 hw)) (by decide) (t := .int) (t' := .int) (by decide) (by decide)
theorem sn_13 {a0 : Array Value} {Z : State} (hw : ∀ d ∈ tables_1, d.before a0 Z = true) : Jvm.RoadKit.slotOf Z "com/example/hasten/hasten/Message" "arg2" "I" ≠ Jvm.RoadKit.slotOf Z "com/example/hasten/hasten/Message" "arg1" "I" := slot_ne (Or.inl (w_30 hw)) (Or.inl (w_28 hw)) (by decide) (t := .int) (t' := .int) (by decide) (by decide)
theorem sn_14 {a0 : Array Value} {Z : State} (hw : ∀ d ∈ tables_1, d.before a0 Z = true) : Jvm.RoadKit.slotOf Z "com/example/hasten/hasten/Message" "obj" "Ljava/lang/Object;" ≠ Jvm.RoadKit.slotOf Z "com/example/hasten/hasten/Message" "arg1" "I" := slot_ne (Or.inl (w_32 hw)) (Or.inl (w_28 hw)) (by decide) (t := (.object "java/lang/Object")) (t' := .int) (by decide) (by decide)
theorem sn_15 {a0 : Array Value} {Z : State} (hw : ∀ d ∈ tables_1, d.before a0 Z = true) : Jvm.RoadKit.slotOf Z "com/example/hasten/hasten/Envelope" "asynchronous" "Z" ≠ Jvm.RoadKit.slotOf Z "com/example/hasten/hasten/Message" "arg1" "I" := slot_ne (Or.inl (w_40 hw)) (Or.inl (w_28 hw)) (by decide) (t := .boolean) (t' := .int) (by decide) (by decide)
theorem sn_16 {a0 : Array Value} {Z : State} (hw : ∀ d ∈ tables_1, d.before a0 Z = true) : Jvm.RoadKit.slotOf Z "com/example/hasten/hasten/Envelope" "when" "J" ≠ Jvm.RoadKit.slotOf Z "com/example/hasten/hasten/Message" "arg1" "I" := slot_ne (Or.inl (w_43 hw)) (Or.inl (w_28 hw)) (by decide) (t := .long) (t' := .int) (by decide) (by decide)
theorem sn_17 {a0 : Array Value} {Z : State} (hw : ∀ d ∈ tables_1, d.before a0 Z = true) : Jvm.RoadKit.slotOf Z "com/example/hasten/hasten/Envelope" "callback" "Ljava/lang/Runnable;" ≠ Jvm.RoadKit.slotOf Z "com/example/hasten/hasten/Message" "arg1" "I" := slot_ne (Or.inl (w_72 hw)) (Or.inl (w_28 hw)) (by decide) (t := (.object "java/lang/Runnable")) (t' := .int) (by decide) (by decide)
theorem d8_16 : decode prog_32_method_15_code 16 = .ok (.aload_n 0, 1) := by decide +kernel
theorem d8_17 : decode prog_32_method_15_code 17 = .ok (.aload_n 1, 1) := by decide +kernel
theorem w_58 {a0 : Array Value} {Z : State} (hw : ∀ d ∈ tables_1, d.before a0 Z = true) : (Jvm.Cond.fieldLink "com/example/hasten/hasten/Message" (32 : Nat) "com/example/hasten/hasten/Message" "arg2" "I").before a0 Z = true := hw _ (List.mem_of_getElem? (i := 58) rfl)
theorem d8_18 : decode prog_32_method_15_code 18 = .ok (.getfield 32, 3) := by decide +kernel
theorem d8_21 : decode prog_32_method_15_code 21 = .ok (.putfield 32, 3) := by decide +kernel
theorem sn_18 {a0 : Array Value} {Z : State} (hw : ∀ d ∈ tables_1, d.before a0 Z = true) : Jvm.RoadKit.slotOf Z "com/example/hasten/hasten/Message" "what" "I" ≠ Jvm.RoadKit.slotOf Z "com/example/hasten/hasten/Message" "arg2" "I" := slot_ne (Or.inl (w_26 hw)) (Or.inl (w_30 hw)) (by decide) (t := .int) (t' := .int) (by decide) (by decide)
theorem sn_19 {a0 : Array Value} {Z : State} (hw : ∀ d ∈ tables_1, d.before a0 Z = true) : Jvm.RoadKit.slotOf Z "com/example/hasten/hasten/Message" "arg1" "I" ≠ Jvm.RoadKit.slotOf Z "com/example/hasten/hasten/Message" "arg2" "I" := slot_ne (Or.inl (w_28 hw)) (Or.inl (w_30 hw)) (by decide) (t := .int) (t' := .int) (by decide) (by decide)
theorem sn_20 {a0 : Array Value} {Z : State} (hw : ∀ d ∈ tables_1, d.before a0 Z = true) : Jvm.RoadKit.slotOf Z "com/example/hasten/hasten/Message" "obj" "Ljava/lang/Object;" ≠ Jvm.RoadKit.slotOf Z "com/example/hasten/hasten/Message" "arg2" "I" := slot_ne (Or.inl (w_32 hw)) (Or.inl (w_30 hw)) (by decide) (t := (.object "java/lang/Object")) (t' := .int) (by decide) (by decide)
theorem sn_21 {a0 : Array Value} {Z : State} (hw : ∀ d ∈ tables_1, d.before a0 Z = true) : Jvm.RoadKit.slotOf Z "com/example/hasten/hasten/Envelope" "asynchronous" "Z" ≠ Jvm.RoadKit.slotOf Z "com/example/hasten/hasten/Message" "arg2" "I" := slot_ne (Or.inl (w_40 hw)) (Or.inl (w_30 hw)) (by decide) (t := .boolean) (t' := .int) (by decide) (by decide)
theorem sn_22 {a0 : Array Value} {Z : State} (hw : ∀ d ∈ tables_1, d.before a0 Z = true) : Jvm.RoadKit.slotOf Z "com/example/hasten/hasten/Envelope" "when" "J" ≠ Jvm.RoadKit.slotOf Z "com/example/hasten/hasten/Message" "arg2" "I" := slot_ne (Or.inl (w_43 hw)) (Or.inl (w_30 hw)) (by decide) (t := .long) (t' := .int) (by decide) (by decide)
theorem sn_23 {a0 : Array Value} {Z : State} (hw : ∀ d ∈ tables_1, d.before a0 Z = true) : Jvm.RoadKit.slotOf Z "com/example/hasten/hasten/Envelope" "callback" "Ljava/lang/Runnable;" ≠ Jvm.RoadKit.slotOf Z "com/example/hasten/hasten/Message" "arg2" "I" := slot_ne (Or.inl (w_72 hw)) (Or.inl (w_30 hw)) (by decide) (t := (.object "java/lang/Runnable")) (t' := .int) (by decide) (by decide)
theorem d8_24 : decode prog_32_method_15_code 24 = .ok (.aload_n 0, 1) := by decide +kernel
theorem d8_25 : decode prog_32_method_15_code 25 = .ok (.aload_n 1, 1) := by decide +kernel
theorem w_59 {a0 : Array Value} {Z : State} (hw : ∀ d ∈ tables_1, d.before a0 Z = true) : (Jvm.Cond.fieldLink "com/example/hasten/hasten/Message" (35 : Nat) "com/example/hasten/hasten/Message" "obj" "Ljava/lang/Object;").before a0 Z = true := hw _ (List.mem_of_getElem? (i := 59) rfl)
theorem d8_26 : decode prog_32_method_15_code 26 = .ok (.getfield 35, 3) := by decide +kernel
theorem d8_29 : decode prog_32_method_15_code 29 = .ok (.putfield 35, 3) := by decide +kernel
theorem sn_24 {a0 : Array Value} {Z : State} (hw : ∀ d ∈ tables_1, d.before a0 Z = true) : Jvm.RoadKit.slotOf Z "com/example/hasten/hasten/Message" "what" "I" ≠ Jvm.RoadKit.slotOf Z "com/example/hasten/hasten/Message" "obj" "Ljava/lang/Object;" := slot_ne (Or.inl (w_26 hw)) (Or.inl (w_32 hw)) (by decide) (t := .int) (t' := (.object "java/lang/Object")) (by decide) (by decide)
theorem sn_25 {a0 : Array Value} {Z : State} (hw : ∀ d ∈ tables_1, d.before a0 Z = true) : Jvm.RoadKit.slotOf Z "com/example/hasten/hasten/Message" "arg1" "I" ≠ Jvm.RoadKit.slotOf Z "com/example/hasten/hasten/Message" "obj" "Ljava/lang/Object;" := slot_ne (Or.inl (w_28 hw)) (Or.inl (w_32 hw)) (by decide) (t := .int) (t' := (.object "java/lang/Object")) (by decide) (by decide)
theorem sn_26 {a0 : Array Value} {Z : State} (hw : ∀ d ∈ tables_1, d.before a0 Z = true) : Jvm.RoadKit.slotOf Z "com/example/hasten/hasten/Message" "arg2" "I" ≠ Jvm.RoadKit.slotOf Z "com/example/hasten/hasten/Message" "obj" "Ljava/lang/Object;" := slot_ne (Or.inl (w_30 hw)) (Or.inl (w_32 hw)) (by decide) (t := .int) (t' := (.object "java/lang/Object")) (by decide) (by decide)
theorem sn_27 {a0 : Array Value} {Z : State} (hw : ∀ d ∈ tables_1, d.before a0 Z = true) : Jvm.RoadKit.slotOf Z "com/example/hasten/hasten/Envelope" "asynchronous" "Z" ≠ Jvm.RoadKit.slotOf Z "com/example/hasten/hasten/Message" "obj" "Ljava/lang/Object;" := slot_ne (Or.inl (w_40 hw)) (Or.inl (w_32 hw)) (by decide) (t := .boolean) (t' := (.object "java/lang/Object")) (by decide) (by decide)
theorem sn_28 {a0 : Array Value} {Z : State} (hw : ∀ d ∈ tables_1, d.before a0 Z = true) : Jvm.RoadKit.slotOf Z "com/example/hasten/hasten/Envelope" "when" "J" ≠ Jvm.RoadKit.slotOf Z "com/example/hasten/hasten/Message" "obj" "Ljava/lang/Object;" := slot_ne (Or.inl (w_43 hw)) (Or.inl (w_32 hw)) (by decide) (t := .long) (t' := (.object "java/lang/Object")) (by decide) (by decide)
theorem sn_29 {a0 : Array Value} {Z : State} (hw : ∀ d ∈ tables_1, d.before a0 Z = true) : Jvm.RoadKit.slotOf Z "com/example/hasten/hasten/Envelope" "callback" "Ljava/lang/Runnable;" ≠ Jvm.RoadKit.slotOf Z "com/example/hasten/hasten/Message" "obj" "Ljava/lang/Object;" := slot_ne (Or.inl (w_72 hw)) (Or.inl (w_32 hw)) (by decide) (t := (.object "java/lang/Runnable")) (t' := (.object "java/lang/Object")) (by decide) (by decide)
theorem d8_32 : decode prog_32_method_15_code 32 = .ok (.aload_n 0, 1) := by decide +kernel
theorem d8_33 : decode prog_32_method_15_code 33 = .ok (.aload_n 1, 1) := by decide +kernel
theorem d8_34 : decode prog_32_method_15_code 34 = .ok (.getfield 47, 3) := by decide +kernel
theorem d8_37 : decode prog_32_method_15_code 37 = .ok (.putfield 47, 3) := by decide +kernel
theorem d8_40 : decode prog_32_method_15_code 40 = .ok (.return_, 1) := by decide +kernel
def Q8two (Z : State) (a1 : Addr) (a2 : Addr) (u_what : Int32) (u_arg1 : Int32) (u_arg2 : Int32) (u_obj : Value) (u_asynchronous : Int32) (u_when : Int64) (u_callback : Value) (v_what : Int32) (v_arg1 : Int32) (v_arg2 : Int32) (v_obj : Value) (v_asynchronous : Int32) (v_when : Int64) (v_callback : Value) (h0 : Heap) (n0 : Nat) (v : Option Value) (h : Heap) (L : List Loc) : Prop := v = none ∧ Fr n0 L ∧ Keep h0 h [a1] ∧ Fld Z h a1 "com/example/hasten/hasten/Message" "what" "I" (.int v_what) ∧ Fld Z h a1 "com/example/hasten/hasten/Message" "arg1" "I" (.int v_arg1) ∧ Fld Z h a1 "com/example/hasten/hasten/Message" "arg2" "I" (.int v_arg2) ∧ Fld Z h a1 "com/example/hasten/hasten/Message" "obj" "Ljava/lang/Object;" v_obj ∧ Fld Z h a1 "com/example/hasten/hasten/Envelope" "asynchronous" "Z" (.int v_asynchronous) ∧ Fld Z h a1 "com/example/hasten/hasten/Envelope" "when" "J" (.long u_when) ∧ Fld Z h a1 "com/example/hasten/hasten/Envelope" "callback" "Ljava/lang/Runnable;" u_callback
set_option maxRecDepth 65536 in
set_option maxHeartbeats 40000000 in
theorem rm8two (l : Launch) (Z : State) (a0 : Array Value) (hw : ∀ d ∈ tables_1, d.before a0 Z = true) (wsC : List Jvm.Cond) (a1 : Addr) (a2 : Addr) (u_what : Int32) (u_arg1 : Int32) (u_arg2 : Int32) (u_obj : Value) (u_asynchronous : Int32) (u_when : Int64) (u_callback : Value) (v_what : Int32) (v_arg1 : Int32) (v_arg2 : Int32) (v_obj : Value) (v_asynchronous : Int32) (v_when : Int64) (v_callback : Value) (h0 : Heap) (n0 : Nat) (Z0 : n0 ≤ h0.size) (E_a1 : Exa Z h0 a1 "com/example/hasten/hasten/Message") (g_a1 : n0 ≤ a1) (F_a1_what : Fld Z h0 a1 "com/example/hasten/hasten/Message" "what" "I" (.int u_what)) (F_a1_arg1 : Fld Z h0 a1 "com/example/hasten/hasten/Message" "arg1" "I" (.int u_arg1)) (F_a1_arg2 : Fld Z h0 a1 "com/example/hasten/hasten/Message" "arg2" "I" (.int u_arg2)) (F_a1_obj : Fld Z h0 a1 "com/example/hasten/hasten/Message" "obj" "Ljava/lang/Object;" u_obj) (F_a1_asynchronous : Fld Z h0 a1 "com/example/hasten/hasten/Envelope" "asynchronous" "Z" (.int u_asynchronous)) (F_a1_when : Fld Z h0 a1 "com/example/hasten/hasten/Envelope" "when" "J" (.long u_when)) (F_a1_callback : Fld Z h0 a1 "com/example/hasten/hasten/Envelope" "callback" "Ljava/lang/Runnable;" u_callback) (F_a2_what : Fld Z h0 a2 "com/example/hasten/hasten/Message" "what" "I" (.int v_what)) (F_a2_arg1 : Fld Z h0 a2 "com/example/hasten/hasten/Message" "arg1" "I" (.int v_arg1)) (F_a2_arg2 : Fld Z h0 a2 "com/example/hasten/hasten/Message" "arg2" "I" (.int v_arg2)) (F_a2_obj : Fld Z h0 a2 "com/example/hasten/hasten/Message" "obj" "Ljava/lang/Object;" v_obj) (F_a2_asynchronous : Fld Z h0 a2 "com/example/hasten/hasten/Envelope" "asynchronous" "Z" (.int v_asynchronous)) (F_a2_when : Fld Z h0 a2 "com/example/hasten/hasten/Envelope" "when" "J" (.long v_when)) (F_a2_callback : Fld Z h0 a2 "com/example/hasten/hasten/Envelope" "callback" "Ljava/lang/Runnable;" v_callback) (ne_a2_a1 : a2 ≠ a1) (h01 : v_asynchronous = 0 ∨ v_asynchronous = 1) (hr_v_obj : v_obj.isRef = true) :
    MetFree l (⟨"com/example/hasten/hasten/Message", "copyFrom", "(Lcom/example/hasten/hasten/Message;)V"⟩ : MethodName) (head1 (Jvm.Cond.code (⟨"com/example/hasten/hasten/Message", "copyFrom", "(Lcom/example/hasten/hasten/Message;)V"⟩ : MethodName) prog_32_method_15_code 2 none :: wsC) ({ frames := 0, cells := 0, slots := 0, locals := 0 } : Room)) (fun a U => a = #[(.ref a1), (.ref a2)] ∧ Z.Warmed39 U.vm ∧ U.heap = h0) (fun _ _ _ _ _ => True) (fun _ U o U' => ∃ v L, o = .returned v ∧ Q8two Z a1 a2 u_what u_arg1 u_arg2 u_obj u_asynchronous u_when u_callback v_what v_arg1 v_arg2 v_obj v_asynchronous v_when v_callback h0 n0 v U'.heap L ∧ FrameEnd U o U' L ({ frames := 0, cells := 0, slots := 0, locals := 0 } : Room).cells ({ frames := 0, cells := 0, slots := 0, locals := 0 } : Room).slots) := by
  refine MetFree.of_bodySF (plainFor_of_name pn_3) hisR ?_
  intro p e s m args below meth c s₁ Bd hml0 hP hK
  obtain ⟨rfl, hZ, hh⟩ := hP
  have hx := Bd.exec
  have hby := Bd.bytes
  have hml : c.maxLocals = 2 := hml0
  have hown : s.vm.findClass "com/example/hasten/hasten/Message" = some m.cls := findClass_of_methodNamed Bd.named
  have hnm := (name_of_methodNamed Bd.named Bd.method).1
  have X0 : Stand p l e ({ frames := 0, cells := 0, slots := 0, locals := 0 } : Room) s m #[(.ref a1), (.ref a2)] below meth c s₁ [] 0 0 := Stand.of_body Bd
  have e0 : s₁.heap = h0 := by rw [← hh, Bd.state]; rfl
  have NF := Fr.nil n0
  have KP : Keep h0 h0 [a1] := Keep.refl h0 _
  refine WP.go ?_
  refine WP.cast (ef_8two m a1 a2) ?_
  refine WP.name ?_
  intro G hG
  refine WP.st (T' := s₁) (f' := (mkF m 2 #[.val (.ref a1), .val (.ref a2)] [(.ref a2), (.ref a1)])) (fun t k => ?_) ?_
  · refine XS.aloadN X0.here hx rfl (hb hby d8_0) rfl rfl ?_
    show Steps p.tables e below (s₁.setTop (mkF m 1 #[.val (.ref a1), .val (.ref a2)] [(.ref a1)])) t
    refine XS.aloadN X0.here hx rfl (hb hby d8_1) rfl rfl ?_
    exact k
  obtain ⟨T26, X26, e26, st26⟩ := getF X0 hx hZ hown (host := "") (Or.inl (w_56 hw)) Via.refl e0 F_a2_what (g := (mkF m 2 #[.val (.ref a1), .val (.ref a2)] [(.ref a2), (.ref a1)])) rfl rfl (hb hby d8_2)
  refine WP.st st26 ?_
  clear st26
  show WP p.tables e below _ T26 (mkF m 5 #[.val (.ref a1), .val (.ref a2)] [(.int v_what), (.ref a1)])
  obtain ⟨T27, h27, X27, e27, W27, st27⟩ := putF X26 hx hZ hown (host := "") (Or.inl (w_56 hw)) Via.refl e26 F_a1_what E_a1 (Or.inl (w_26 hw)) (w_8 hw) (ty := .int) (by decide) rfl rfl (g := (mkF m 5 #[.val (.ref a1), .val (.ref a2)] [(.int v_what), (.ref a1)])) rfl rfl (hb hby d8_5)
  refine WP.st st27 ?_
  clear st27
  replace E_a1 := E_a1.wr W27
  replace F_a1_what := F_a1_what.same W27
  replace F_a1_arg1 := F_a1_arg1.other W27 (Or.inr (sn_6 hw))
  replace F_a1_arg2 := F_a1_arg2.other W27 (Or.inr (sn_7 hw))
  replace F_a1_obj := F_a1_obj.other W27 (Or.inr (sn_8 hw))
  replace F_a1_asynchronous := F_a1_asynchronous.other W27 (Or.inr (sn_9 hw))
  replace F_a1_when := F_a1_when.other W27 (Or.inr (sn_10 hw))
  replace F_a1_callback := F_a1_callback.other W27 (Or.inr (sn_11 hw))
  replace F_a2_what := F_a2_what.other W27 (Or.inl ne_a2_a1)
  replace F_a2_arg1 := F_a2_arg1.other W27 (Or.inl ne_a2_a1)
  replace F_a2_arg2 := F_a2_arg2.other W27 (Or.inl ne_a2_a1)
  replace F_a2_obj := F_a2_obj.other W27 (Or.inl ne_a2_a1)
  replace F_a2_asynchronous := F_a2_asynchronous.other W27 (Or.inl ne_a2_a1)
  replace F_a2_when := F_a2_when.other W27 (Or.inl ne_a2_a1)
  replace F_a2_callback := F_a2_callback.other W27 (Or.inl ne_a2_a1)
  replace Z0 := Nat.le_trans Z0 (Keep.of_wr W27).1
  replace KP := KP.wr W27 (Or.inl (List.mem_of_getElem? (i := 0) rfl))
  replace NF := Fr.snoc X27 NF g_a1
  clear W27
  have hXN : ∃ LL, Stand p l e ({ frames := 0, cells := 0, slots := 0, locals := 0 } : Room) s m #[(.ref a1), (.ref a2)] below meth c T27 LL 0 0 ∧ Fr n0 LL := ⟨_, X27, NF⟩
  clear X27 NF
  obtain ⟨LL28, X27, NF⟩ := hXN
  show WP p.tables e below _ T27 (mkF m 8 #[.val (.ref a1), .val (.ref a2)] [])
  refine WP.st (T' := T27) (f' := (mkF m 10 #[.val (.ref a1), .val (.ref a2)] [(.ref a2), (.ref a1)])) (fun t k => ?_) ?_
  · refine XS.aloadN X27.here hx rfl (hb hby d8_8) rfl rfl ?_
    show Steps p.tables e below (T27.setTop (mkF m 9 #[.val (.ref a1), .val (.ref a2)] [(.ref a1)])) t
    refine XS.aloadN X27.here hx rfl (hb hby d8_9) rfl rfl ?_
    exact k
  obtain ⟨T29, X29, e29, st29⟩ := getF X27 hx hZ hown (host := "") (Or.inl (w_57 hw)) Via.refl e27 F_a2_arg1 (g := (mkF m 10 #[.val (.ref a1), .val (.ref a2)] [(.ref a2), (.ref a1)])) rfl rfl (hb hby d8_10)
  refine WP.st st29 ?_
  clear st29
  show WP p.tables e below _ T29 (mkF m 13 #[.val (.ref a1), .val (.ref a2)] [(.int v_arg1), (.ref a1)])
  obtain ⟨T30, h30, X30, e30, W30, st30⟩ := putF X29 hx hZ hown (host := "") (Or.inl (w_57 hw)) Via.refl e29 F_a1_arg1 E_a1 (Or.inl (w_28 hw)) (w_8 hw) (ty := .int) (by decide) rfl rfl (g := (mkF m 13 #[.val (.ref a1), .val (.ref a2)] [(.int v_arg1), (.ref a1)])) rfl rfl (hb hby d8_13)
  refine WP.st st30 ?_
  clear st30
  replace E_a1 := E_a1.wr W30
  replace F_a1_what := F_a1_what.other W30 (Or.inr (sn_12 hw))
  replace F_a1_arg1 := F_a1_arg1.same W30
  replace F_a1_arg2 := F_a1_arg2.other W30 (Or.inr (sn_13 hw))
  replace F_a1_obj := F_a1_obj.other W30 (Or.inr (sn_14 hw))
  replace F_a1_asynchronous := F_a1_asynchronous.other W30 (Or.inr (sn_15 hw))
  replace F_a1_when := F_a1_when.other W30 (Or.inr (sn_16 hw))
  replace F_a1_callback := F_a1_callback.other W30 (Or.inr (sn_17 hw))
  replace F_a2_what := F_a2_what.other W30 (Or.inl ne_a2_a1)
  replace F_a2_arg1 := F_a2_arg1.other W30 (Or.inl ne_a2_a1)
  replace F_a2_arg2 := F_a2_arg2.other W30 (Or.inl ne_a2_a1)
  replace F_a2_obj := F_a2_obj.other W30 (Or.inl ne_a2_a1)
  replace F_a2_asynchronous := F_a2_asynchronous.other W30 (Or.inl ne_a2_a1)
  replace F_a2_when := F_a2_when.other W30 (Or.inl ne_a2_a1)
  replace F_a2_callback := F_a2_callback.other W30 (Or.inl ne_a2_a1)
  replace Z0 := Nat.le_trans Z0 (Keep.of_wr W30).1
  replace KP := KP.wr W30 (Or.inl (List.mem_of_getElem? (i := 0) rfl))
  replace NF := Fr.snoc X30 NF g_a1
  clear W30
  have hXN : ∃ LL, Stand p l e ({ frames := 0, cells := 0, slots := 0, locals := 0 } : Room) s m #[(.ref a1), (.ref a2)] below meth c T30 LL 0 0 ∧ Fr n0 LL := ⟨_, X30, NF⟩
  clear X30 NF
  obtain ⟨LL31, X30, NF⟩ := hXN
  show WP p.tables e below _ T30 (mkF m 16 #[.val (.ref a1), .val (.ref a2)] [])
  refine WP.st (T' := T30) (f' := (mkF m 18 #[.val (.ref a1), .val (.ref a2)] [(.ref a2), (.ref a1)])) (fun t k => ?_) ?_
  · refine XS.aloadN X30.here hx rfl (hb hby d8_16) rfl rfl ?_
    show Steps p.tables e below (T30.setTop (mkF m 17 #[.val (.ref a1), .val (.ref a2)] [(.ref a1)])) t
    refine XS.aloadN X30.here hx rfl (hb hby d8_17) rfl rfl ?_
    exact k
  obtain ⟨T32, X32, e32, st32⟩ := getF X30 hx hZ hown (host := "") (Or.inl (w_58 hw)) Via.refl e30 F_a2_arg2 (g := (mkF m 18 #[.val (.ref a1), .val (.ref a2)] [(.ref a2), (.ref a1)])) rfl rfl (hb hby d8_18)
  refine WP.st st32 ?_
  clear st32
  show WP p.tables e below _ T32 (mkF m 21 #[.val (.ref a1), .val (.ref a2)] [(.int v_arg2), (.ref a1)])
  obtain ⟨T33, h33, X33, e33, W33, st33⟩ := putF X32 hx hZ hown (host := "") (Or.inl (w_58 hw)) Via.refl e32 F_a1_arg2 E_a1 (Or.inl (w_30 hw)) (w_8 hw) (ty := .int) (by decide) rfl rfl (g := (mkF m 21 #[.val (.ref a1), .val (.ref a2)] [(.int v_arg2), (.ref a1)])) rfl rfl (hb hby d8_21)
  refine WP.st st33 ?_
  clear st33
  replace E_a1 := E_a1.wr W33
  replace F_a1_what := F_a1_what.other W33 (Or.inr (sn_18 hw))
  replace F_a1_arg1 := F_a1_arg1.other W33 (Or.inr (sn_19 hw))
  replace F_a1_arg2 := F_a1_arg2.same W33
  replace F_a1_obj := F_a1_obj.other W33 (Or.inr (sn_20 hw))
  replace F_a1_asynchronous := F_a1_asynchronous.other W33 (Or.inr (sn_21 hw))
  replace F_a1_when := F_a1_when.other W33 (Or.inr (sn_22 hw))
  replace F_a1_callback := F_a1_callback.other W33 (Or.inr (sn_23 hw))
  replace F_a2_what := F_a2_what.other W33 (Or.inl ne_a2_a1)
  replace F_a2_arg1 := F_a2_arg1.other W33 (Or.inl ne_a2_a1)
  replace F_a2_arg2 := F_a2_arg2.other W33 (Or.inl ne_a2_a1)
  replace F_a2_obj := F_a2_obj.other W33 (Or.inl ne_a2_a1)
  replace F_a2_asynchronous := F_a2_asynchronous.other W33 (Or.inl ne_a2_a1)
  replace F_a2_when := F_a2_when.other W33 (Or.inl ne_a2_a1)
  replace F_a2_callback := F_a2_callback.other W33 (Or.inl ne_a2_a1)
  replace Z0 := Nat.le_trans Z0 (Keep.of_wr W33).1
  replace KP := KP.wr W33 (Or.inl (List.mem_of_getElem? (i := 0) rfl))
  replace NF := Fr.snoc X33 NF g_a1
  clear W33
  have hXN : ∃ LL, Stand p l e ({ frames := 0, cells := 0, slots := 0, locals := 0 } : Room) s m #[(.ref a1), (.ref a2)] below meth c T33 LL 0 0 ∧ Fr n0 LL := ⟨_, X33, NF⟩
  clear X33 NF
  obtain ⟨LL34, X33, NF⟩ := hXN
  show WP p.tables e below _ T33 (mkF m 24 #[.val (.ref a1), .val (.ref a2)] [])
  refine WP.st (T' := T33) (f' := (mkF m 26 #[.val (.ref a1), .val (.ref a2)] [(.ref a2), (.ref a1)])) (fun t k => ?_) ?_
  · refine XS.aloadN X33.here hx rfl (hb hby d8_24) rfl rfl ?_
    show Steps p.tables e below (T33.setTop (mkF m 25 #[.val (.ref a1), .val (.ref a2)] [(.ref a1)])) t
    refine XS.aloadN X33.here hx rfl (hb hby d8_25) rfl rfl ?_
    exact k
  obtain ⟨T35, X35, e35, st35⟩ := getF X33 hx hZ hown (host := "") (Or.inl (w_59 hw)) Via.refl e33 F_a2_obj (g := (mkF m 26 #[.val (.ref a1), .val (.ref a2)] [(.ref a2), (.ref a1)])) rfl rfl (hb hby d8_26)
  refine WP.st st35 ?_
  clear st35
  show WP p.tables e below _ T35 (mkF m 29 #[.val (.ref a1), .val (.ref a2)] [v_obj, (.ref a1)])
  obtain ⟨T36, h36, X36, e36, W36, st36⟩ := putF X35 hx hZ hown (host := "") (Or.inl (w_59 hw)) Via.refl e35 F_a1_obj E_a1 (Or.inl (w_32 hw)) (w_8 hw) (ty := (.object "java/lang/Object")) (by decide) rfl (by rcases ref_cases hr_v_obj with h | ⟨z, h⟩ <;> rw [h] <;> rfl) (g := (mkF m 29 #[.val (.ref a1), .val (.ref a2)] [v_obj, (.ref a1)])) rfl rfl (hb hby d8_29)
  refine WP.st st36 ?_
  clear st36
  replace E_a1 := E_a1.wr W36
  replace F_a1_what := F_a1_what.other W36 (Or.inr (sn_24 hw))
  replace F_a1_arg1 := F_a1_arg1.other W36 (Or.inr (sn_25 hw))
  replace F_a1_arg2 := F_a1_arg2.other W36 (Or.inr (sn_26 hw))
  replace F_a1_obj := F_a1_obj.same W36
  replace F_a1_asynchronous := F_a1_asynchronous.other W36 (Or.inr (sn_27 hw))
  replace F_a1_when := F_a1_when.other W36 (Or.inr (sn_28 hw))
  replace F_a1_callback := F_a1_callback.other W36 (Or.inr (sn_29 hw))
  replace F_a2_what := F_a2_what.other W36 (Or.inl ne_a2_a1)
  replace F_a2_arg1 := F_a2_arg1.other W36 (Or.inl ne_a2_a1)
  replace F_a2_arg2 := F_a2_arg2.other W36 (Or.inl ne_a2_a1)
  replace F_a2_obj := F_a2_obj.other W36 (Or.inl ne_a2_a1)
  replace F_a2_asynchronous := F_a2_asynchronous.other W36 (Or.inl ne_a2_a1)
  replace F_a2_when := F_a2_when.other W36 (Or.inl ne_a2_a1)
  replace F_a2_callback := F_a2_callback.other W36 (Or.inl ne_a2_a1)
  replace Z0 := Nat.le_trans Z0 (Keep.of_wr W36).1
  replace KP := KP.wr W36 (Or.inl (List.mem_of_getElem? (i := 0) rfl))
  replace NF := Fr.snoc X36 NF g_a1
  clear W36
  have hXN : ∃ LL, Stand p l e ({ frames := 0, cells := 0, slots := 0, locals := 0 } : Room) s m #[(.ref a1), (.ref a2)] below meth c T36 LL 0 0 ∧ Fr n0 LL := ⟨_, X36, NF⟩
  clear X36 NF
  obtain ⟨LL37, X36, NF⟩ := hXN
  show WP p.tables e below _ T36 (mkF m 32 #[.val (.ref a1), .val (.ref a2)] [])
  refine WP.st (T' := T36) (f' := (mkF m 34 #[.val (.ref a1), .val (.ref a2)] [(.ref a2), (.ref a1)])) (fun t k => ?_) ?_
  · refine XS.aloadN X36.here hx rfl (hb hby d8_32) rfl rfl ?_
    show Steps p.tables e below (T36.setTop (mkF m 33 #[.val (.ref a1), .val (.ref a2)] [(.ref a1)])) t
    refine XS.aloadN X36.here hx rfl (hb hby d8_33) rfl rfl ?_
    exact k
  obtain ⟨T38, X38, e38, st38⟩ := getF X36 hx hZ hown (host := "") (Or.inl (w_38 hw)) (Via.of (w_39 hw)) e36 F_a2_asynchronous (g := (mkF m 34 #[.val (.ref a1), .val (.ref a2)] [(.ref a2), (.ref a1)])) rfl rfl (hb hby d8_34)
  refine WP.st st38 ?_
  clear st38
  show WP p.tables e below _ T38 (mkF m 37 #[.val (.ref a1), .val (.ref a2)] [(.int v_asynchronous), (.ref a1)])
  obtain ⟨T39, h39, X39, e39, W39, st39⟩ := putFN X38 hx hZ hown (w_38 hw) (Via.of (w_39 hw)) e38 F_a1_asynchronous E_a1 (Or.inl (w_40 hw)) (w_8 hw) (ty := .boolean) (v := (.int v_asynchronous)) (v' := (.int v_asynchronous)) (by decide) (congrArg Value.int (nar01 h01)) (ownFits (t := .boolean) (x := v_asynchronous) (congrArg Value.int (nar01 h01)) (fits_nar_bool _)) (g := (mkF m 37 #[.val (.ref a1), .val (.ref a2)] [(.int v_asynchronous), (.ref a1)])) rfl rfl (hb hby d8_37)
  refine WP.st st39 ?_
  clear st39
  replace E_a1 := E_a1.wr W39
  replace F_a1_what := F_a1_what.other W39 (Or.inr (sn_0 hw))
  replace F_a1_arg1 := F_a1_arg1.other W39 (Or.inr (sn_1 hw))
  replace F_a1_arg2 := F_a1_arg2.other W39 (Or.inr (sn_2 hw))
  replace F_a1_obj := F_a1_obj.other W39 (Or.inr (sn_3 hw))
  replace F_a1_asynchronous := F_a1_asynchronous.same W39
  replace F_a1_when := F_a1_when.other W39 (Or.inr (sn_4 hw))
  replace F_a1_callback := F_a1_callback.other W39 (Or.inr (sn_5 hw))
  replace F_a2_what := F_a2_what.other W39 (Or.inl ne_a2_a1)
  replace F_a2_arg1 := F_a2_arg1.other W39 (Or.inl ne_a2_a1)
  replace F_a2_arg2 := F_a2_arg2.other W39 (Or.inl ne_a2_a1)
  replace F_a2_obj := F_a2_obj.other W39 (Or.inl ne_a2_a1)
  replace F_a2_asynchronous := F_a2_asynchronous.other W39 (Or.inl ne_a2_a1)
  replace F_a2_when := F_a2_when.other W39 (Or.inl ne_a2_a1)
  replace F_a2_callback := F_a2_callback.other W39 (Or.inl ne_a2_a1)
  replace Z0 := Nat.le_trans Z0 (Keep.of_wr W39).1
  replace KP := KP.wr W39 (Or.inl (List.mem_of_getElem? (i := 0) rfl))
  replace NF := Fr.snoc X39 NF g_a1
  clear W39
  have hXN : ∃ LL, Stand p l e ({ frames := 0, cells := 0, slots := 0, locals := 0 } : Room) s m #[(.ref a1), (.ref a2)] below meth c T39 LL 0 0 ∧ Fr n0 LL := ⟨_, X39, NF⟩
  clear X39 NF
  obtain ⟨LL40, X39, NF⟩ := hXN
  show WP p.tables e below _ T39 (mkF m 40 #[.val (.ref a1), .val (.ref a2)] [])
  subst hG
  obtain ⟨fs, hr, hrun, hended, hW, hsame⟩ := X39.leave (v := none) (fun _ => rfl)
  refine WP.fin ⟨_, _, ?_, hrun, hended, _, _, rfl, ?_, ⟨_, rfl⟩, hW, hsame.mono (by decide) (by decide)⟩
  · exact X39.returnOut hx Bd.returns (hb hby d8_40) hr
  · show Q8two Z a1 a2 u_what u_arg1 u_arg2 u_obj u_asynchronous u_when u_callback v_what v_arg1 v_arg2 v_obj v_asynchronous v_when v_callback h0 n0 _ T39.heap _
    rw [e39]
    exact ⟨rfl, NF, KP, F_a1_what, F_a1_arg1, F_a1_arg2, F_a1_obj, F_a1_asynchronous, F_a1_when, F_a1_callback⟩
theorem ef_8one (m : MethodId) (z0 : Addr) (z1 : Addr) : entryFrame m #[(.ref z0), (.ref z1)] 2 = mkF m 0 #[.val (.ref z0), .val (.ref z1)] [] := by
  all_goals first | (simp [entryFrame, mkF, argsToLocals, Value.category]; done) | rfl
def Q8one (Z : State) (a1 : Addr) (u_what : Int32) (u_arg1 : Int32) (u_arg2 : Int32) (u_obj : Value) (u_asynchronous : Int32) (u_when : Int64) (u_callback : Value) (h0 : Heap) (n0 : Nat) (v : Option Value) (h : Heap) (L : List Loc) : Prop := v = none ∧ Fr n0 L ∧ Keep h0 h [a1] ∧ Fld Z h a1 "com/example/hasten/hasten/Message" "what" "I" (.int u_what) ∧ Fld Z h a1 "com/example/hasten/hasten/Message" "arg1" "I" (.int u_arg1) ∧ Fld Z h a1 "com/example/hasten/hasten/Message" "arg2" "I" (.int u_arg2) ∧ Fld Z h a1 "com/example/hasten/hasten/Message" "obj" "Ljava/lang/Object;" u_obj ∧ Fld Z h a1 "com/example/hasten/hasten/Envelope" "asynchronous" "Z" (.int u_asynchronous) ∧ Fld Z h a1 "com/example/hasten/hasten/Envelope" "when" "J" (.long u_when) ∧ Fld Z h a1 "com/example/hasten/hasten/Envelope" "callback" "Ljava/lang/Runnable;" u_callback
set_option maxRecDepth 65536 in
set_option maxHeartbeats 40000000 in
theorem rm8one (l : Launch) (Z : State) (a0 : Array Value) (hw : ∀ d ∈ tables_1, d.before a0 Z = true) (wsC : List Jvm.Cond) (a1 : Addr) (u_what : Int32) (u_arg1 : Int32) (u_arg2 : Int32) (u_obj : Value) (u_asynchronous : Int32) (u_when : Int64) (u_callback : Value) (h0 : Heap) (n0 : Nat) (Z0 : n0 ≤ h0.size) (E_a1 : Exa Z h0 a1 "com/example/hasten/hasten/Message") (g_a1 : n0 ≤ a1) (F_a1_what : Fld Z h0 a1 "com/example/hasten/hasten/Message" "what" "I" (.int u_what)) (F_a1_arg1 : Fld Z h0 a1 "com/example/hasten/hasten/Message" "arg1" "I" (.int u_arg1)) (F_a1_arg2 : Fld Z h0 a1 "com/example/hasten/hasten/Message" "arg2" "I" (.int u_arg2)) (F_a1_obj : Fld Z h0 a1 "com/example/hasten/hasten/Message" "obj" "Ljava/lang/Object;" u_obj) (F_a1_asynchronous : Fld Z h0 a1 "com/example/hasten/hasten/Envelope" "asynchronous" "Z" (.int u_asynchronous)) (F_a1_when : Fld Z h0 a1 "com/example/hasten/hasten/Envelope" "when" "J" (.long u_when)) (F_a1_callback : Fld Z h0 a1 "com/example/hasten/hasten/Envelope" "callback" "Ljava/lang/Runnable;" u_callback) (h01 : u_asynchronous = 0 ∨ u_asynchronous = 1) (hr_u_obj : u_obj.isRef = true) :
    MetFree l (⟨"com/example/hasten/hasten/Message", "copyFrom", "(Lcom/example/hasten/hasten/Message;)V"⟩ : MethodName) (head1 (Jvm.Cond.code (⟨"com/example/hasten/hasten/Message", "copyFrom", "(Lcom/example/hasten/hasten/Message;)V"⟩ : MethodName) prog_32_method_15_code 2 none :: wsC) ({ frames := 0, cells := 0, slots := 0, locals := 0 } : Room)) (fun a U => a = #[(.ref a1), (.ref a1)] ∧ Z.Warmed39 U.vm ∧ U.heap = h0) (fun _ _ _ _ _ => True) (fun _ U o U' => ∃ v L, o = .returned v ∧ Q8one Z a1 u_what u_arg1 u_arg2 u_obj u_asynchronous u_when u_callback h0 n0 v U'.heap L ∧ FrameEnd U o U' L ({ frames := 0, cells := 0, slots := 0, locals := 0 } : Room).cells ({ frames := 0, cells := 0, slots := 0, locals := 0 } : Room).slots) := by
  refine MetFree.of_bodySF (plainFor_of_name pn_3) hisR ?_
  intro p e s m args below meth c s₁ Bd hml0 hP hK
  obtain ⟨rfl, hZ, hh⟩ := hP
  have hx := Bd.exec
  have hby := Bd.bytes
  have hml : c.maxLocals = 2 := hml0
  have hown : s.vm.findClass "com/example/hasten/hasten/Message" = some m.cls := findClass_of_methodNamed Bd.named
  have hnm := (name_of_methodNamed Bd.named Bd.method).1
  have X0 : Stand p l e ({ frames := 0, cells := 0, slots := 0, locals := 0 } : Room) s m #[(.ref a1), (.ref a1)] below meth c s₁ [] 0 0 := Stand.of_body Bd
  have e0 : s₁.heap = h0 := by rw [← hh, Bd.state]; rfl
  have NF := Fr.nil n0
  have KP : Keep h0 h0 [a1] := Keep.refl h0 _
  refine WP.go ?_
  refine WP.cast (ef_8one m a1 a1) ?_
  refine WP.name ?_
  intro G hG
  refine WP.st (T' := s₁) (f' := (mkF m 2 #[.val (.ref a1), .val (.ref a1)] [(.ref a1), (.ref a1)])) (fun t k => ?_) ?_
  · refine XS.aloadN X0.here hx rfl (hb hby d8_0) rfl rfl ?_
    show Steps p.tables e below (s₁.setTop (mkF m 1 #[.val (.ref a1), .val (.ref a1)] [(.ref a1)])) t
    refine XS.aloadN X0.here hx rfl (hb hby d8_1) rfl rfl ?_
    exact k
  obtain ⟨T41, X41, e41, st41⟩ := getF X0 hx hZ hown (host := "") (Or.inl (w_56 hw)) Via.refl e0 F_a1_what (g := (mkF m 2 #[.val (.ref a1), .val (.ref a1)] [(.ref a1), (.ref a1)])) rfl rfl (hb hby d8_2)
  refine WP.st st41 ?_
  clear st41
  show WP p.tables e below _ T41 (mkF m 5 #[.val (.ref a1), .val (.ref a1)] [(.int u_what), (.ref a1)])
  obtain ⟨T42, h42, X42, e42, W42, st42⟩ := putF X41 hx hZ hown (host := "") (Or.inl (w_56 hw)) Via.refl e41 F_a1_what E_a1 (Or.inl (w_26 hw)) (w_8 hw) (ty := .int) (by decide) rfl rfl (g := (mkF m 5 #[.val (.ref a1), .val (.ref a1)] [(.int u_what), (.ref a1)])) rfl rfl (hb hby d8_5)
  refine WP.st st42 ?_
  clear st42
  replace E_a1 := E_a1.wr W42
  replace F_a1_what := F_a1_what.same W42
  replace F_a1_arg1 := F_a1_arg1.other W42 (Or.inr (sn_6 hw))
  replace F_a1_arg2 := F_a1_arg2.other W42 (Or.inr (sn_7 hw))
  replace F_a1_obj := F_a1_obj.other W42 (Or.inr (sn_8 hw))
  replace F_a1_asynchronous := F_a1_asynchronous.other W42 (Or.inr (sn_9 hw))
  replace F_a1_when := F_a1_when.other W42 (Or.inr (sn_10 hw))
  replace F_a1_callback := F_a1_callback.other W42 (Or.inr (sn_11 hw))
  replace Z0 := Nat.le_trans Z0 (Keep.of_wr W42).1
  replace KP := KP.wr W42 (Or.inl (List.mem_of_getElem? (i := 0) rfl))
  replace NF := Fr.snoc X42 NF g_a1
  clear W42
  have hXN : ∃ LL, Stand p l e ({ frames := 0, cells := 0, slots := 0, locals := 0 } : Room) s m #[(.ref a1), (.ref a1)] below meth c T42 LL 0 0 ∧ Fr n0 LL := ⟨_, X42, NF⟩
  clear X42 NF
  obtain ⟨LL43, X42, NF⟩ := hXN
  show WP p.tables e below _ T42 (mkF m 8 #[.val (.ref a1), .val (.ref a1)] [])
  refine WP.st (T' := T42) (f' := (mkF m 10 #[.val (.ref a1), .val (.ref a1)] [(.ref a1), (.ref a1)])) (fun t k => ?_) ?_
  · refine XS.aloadN X42.here hx rfl (hb hby d8_8) rfl rfl ?_
    show Steps p.tables e below (T42.setTop (mkF m 9 #[.val (.ref a1), .val (.ref a1)] [(.ref a1)])) t
    refine XS.aloadN X42.here hx rfl (hb hby d8_9) rfl rfl ?_
    exact k
  obtain ⟨T44, X44, e44, st44⟩ := getF X42 hx hZ hown (host := "") (Or.inl (w_57 hw)) Via.refl e42 F_a1_arg1 (g := (mkF m 10 #[.val (.ref a1), .val (.ref a1)] [(.ref a1), (.ref a1)])) rfl rfl (hb hby d8_10)
  refine WP.st st44 ?_
  clear st44
  show WP p.tables e below _ T44 (mkF m 13 #[.val (.ref a1), .val (.ref a1)] [(.int u_arg1), (.ref a1)])
  obtain ⟨T45, h45, X45, e45, W45, st45⟩ := putF X44 hx hZ hown (host := "") (Or.inl (w_57 hw)) Via.refl e44 F_a1_arg1 E_a1 (Or.inl (w_28 hw)) (w_8 hw) (ty := .int) (by decide) rfl rfl (g := (mkF m 13 #[.val (.ref a1), .val (.ref a1)] [(.int u_arg1), (.ref a1)])) rfl rfl (hb hby d8_13)
  refine WP.st st45 ?_
  clear st45
  replace E_a1 := E_a1.wr W45
  replace F_a1_what := F_a1_what.other W45 (Or.inr (sn_12 hw))
  replace F_a1_arg1 := F_a1_arg1.same W45
  replace F_a1_arg2 := F_a1_arg2.other W45 (Or.inr (sn_13 hw))
  replace F_a1_obj := F_a1_obj.other W45 (Or.inr (sn_14 hw))
  replace F_a1_asynchronous := F_a1_asynchronous.other W45 (Or.inr (sn_15 hw))
  replace F_a1_when := F_a1_when.other W45 (Or.inr (sn_16 hw))
  replace F_a1_callback := F_a1_callback.other W45 (Or.inr (sn_17 hw))
  replace Z0 := Nat.le_trans Z0 (Keep.of_wr W45).1
  replace KP := KP.wr W45 (Or.inl (List.mem_of_getElem? (i := 0) rfl))
  replace NF := Fr.snoc X45 NF g_a1
  clear W45
  have hXN : ∃ LL, Stand p l e ({ frames := 0, cells := 0, slots := 0, locals := 0 } : Room) s m #[(.ref a1), (.ref a1)] below meth c T45 LL 0 0 ∧ Fr n0 LL := ⟨_, X45, NF⟩
  clear X45 NF
  obtain ⟨LL46, X45, NF⟩ := hXN
  show WP p.tables e below _ T45 (mkF m 16 #[.val (.ref a1), .val (.ref a1)] [])
  refine WP.st (T' := T45) (f' := (mkF m 18 #[.val (.ref a1), .val (.ref a1)] [(.ref a1), (.ref a1)])) (fun t k => ?_) ?_
  · refine XS.aloadN X45.here hx rfl (hb hby d8_16) rfl rfl ?_
    show Steps p.tables e below (T45.setTop (mkF m 17 #[.val (.ref a1), .val (.ref a1)] [(.ref a1)])) t
    refine XS.aloadN X45.here hx rfl (hb hby d8_17) rfl rfl ?_
    exact k
  obtain ⟨T47, X47, e47, st47⟩ := getF X45 hx hZ hown (host := "") (Or.inl (w_58 hw)) Via.refl e45 F_a1_arg2 (g := (mkF m 18 #[.val (.ref a1), .val (.ref a1)] [(.ref a1), (.ref a1)])) rfl rfl (hb hby d8_18)
  refine WP.st st47 ?_
  clear st47
  show WP p.tables e below _ T47 (mkF m 21 #[.val (.ref a1), .val (.ref a1)] [(.int u_arg2), (.ref a1)])
  obtain ⟨T48, h48, X48, e48, W48, st48⟩ := putF X47 hx hZ hown (host := "") (Or.inl (w_58 hw)) Via.refl e47 F_a1_arg2 E_a1 (Or.inl (w_30 hw)) (w_8 hw) (ty := .int) (by decide) rfl rfl (g := (mkF m 21 #[.val (.ref a1), .val (.ref a1)] [(.int u_arg2), (.ref a1)])) rfl rfl (hb hby d8_21)
  refine WP.st st48 ?_
  clear st48
  replace E_a1 := E_a1.wr W48
  replace F_a1_what := F_a1_what.other W48 (Or.inr (sn_18 hw))
  replace F_a1_arg1 := F_a1_arg1.other W48 (Or.inr (sn_19 hw))
  replace F_a1_arg2 := F_a1_arg2.same W48
  replace F_a1_obj := F_a1_obj.other W48 (Or.inr (sn_20 hw))
  replace F_a1_asynchronous := F_a1_asynchronous.other W48 (Or.inr (sn_21 hw))
  replace F_a1_when := F_a1_when.other W48 (Or.inr (sn_22 hw))
  replace F_a1_callback := F_a1_callback.other W48 (Or.inr (sn_23 hw))
  replace Z0 := Nat.le_trans Z0 (Keep.of_wr W48).1
  replace KP := KP.wr W48 (Or.inl (List.mem_of_getElem? (i := 0) rfl))
  replace NF := Fr.snoc X48 NF g_a1
  clear W48
  have hXN : ∃ LL, Stand p l e ({ frames := 0, cells := 0, slots := 0, locals := 0 } : Room) s m #[(.ref a1), (.ref a1)] below meth c T48 LL 0 0 ∧ Fr n0 LL := ⟨_, X48, NF⟩
  clear X48 NF
  obtain ⟨LL49, X48, NF⟩ := hXN
  show WP p.tables e below _ T48 (mkF m 24 #[.val (.ref a1), .val (.ref a1)] [])
  refine WP.st (T' := T48) (f' := (mkF m 26 #[.val (.ref a1), .val (.ref a1)] [(.ref a1), (.ref a1)])) (fun t k => ?_) ?_
  · refine XS.aloadN X48.here hx rfl (hb hby d8_24) rfl rfl ?_
    show Steps p.tables e below (T48.setTop (mkF m 25 #[.val (.ref a1), .val (.ref a1)] [(.ref a1)])) t
    refine XS.aloadN X48.here hx rfl (hb hby d8_25) rfl rfl ?_
    exact k
  obtain ⟨T50, X50, e50, st50⟩ := getF X48 hx hZ hown (host := "") (Or.inl (w_59 hw)) Via.refl e48 F_a1_obj (g := (mkF m 26 #[.val (.ref a1), .val (.ref a1)] [(.ref a1), (.ref a1)])) rfl rfl (hb hby d8_26)
  refine WP.st st50 ?_
  clear st50
  show WP p.tables e below _ T50 (mkF m 29 #[.val (.ref a1), .val (.ref a1)] [u_obj, (.ref a1)])
  obtain ⟨T51, h51, X51, e51, W51, st51⟩ := putF X50 hx hZ hown (host := "") (Or.inl (w_59 hw)) Via.refl e50 F_a1_obj E_a1 (Or.inl (w_32 hw)) (w_8 hw) (ty := (.object "java/lang/Object")) (by decide) rfl (by rcases ref_cases hr_u_obj with h | ⟨z, h⟩ <;> rw [h] <;> rfl) (g := (mkF m 29 #[.val (.ref a1), .val (.ref a1)] [u_obj, (.ref a1)])) rfl rfl (hb hby d8_29)
  refine WP.st st51 ?_
  clear st51
  replace E_a1 := E_a1.wr W51
  replace F_a1_what := F_a1_what.other W51 (Or.inr (sn_24 hw))
  replace F_a1_arg1 := F_a1_arg1.other W51 (Or.inr (sn_25 hw))
  replace F_a1_arg2 := F_a1_arg2.other W51 (Or.inr (sn_26 hw))
  replace F_a1_obj := F_a1_obj.same W51
  replace F_a1_asynchronous := F_a1_asynchronous.other W51 (Or.inr (sn_27 hw))
  replace F_a1_when := F_a1_when.other W51 (Or.inr (sn_28 hw))
  replace F_a1_callback := F_a1_callback.other W51 (Or.inr (sn_29 hw))
  replace Z0 := Nat.le_trans Z0 (Keep.of_wr W51).1
  replace KP := KP.wr W51 (Or.inl (List.mem_of_getElem? (i := 0) rfl))
  replace NF := Fr.snoc X51 NF g_a1
  clear W51
  have hXN : ∃ LL, Stand p l e ({ frames := 0, cells := 0, slots := 0, locals := 0 } : Room) s m #[(.ref a1), (.ref a1)] below meth c T51 LL 0 0 ∧ Fr n0 LL := ⟨_, X51, NF⟩
  clear X51 NF
  obtain ⟨LL52, X51, NF⟩ := hXN
  show WP p.tables e below _ T51 (mkF m 32 #[.val (.ref a1), .val (.ref a1)] [])
  refine WP.st (T' := T51) (f' := (mkF m 34 #[.val (.ref a1), .val (.ref a1)] [(.ref a1), (.ref a1)])) (fun t k => ?_) ?_
  · refine XS.aloadN X51.here hx rfl (hb hby d8_32) rfl rfl ?_
    show Steps p.tables e below (T51.setTop (mkF m 33 #[.val (.ref a1), .val (.ref a1)] [(.ref a1)])) t
    refine XS.aloadN X51.here hx rfl (hb hby d8_33) rfl rfl ?_
    exact k
  obtain ⟨T53, X53, e53, st53⟩ := getF X51 hx hZ hown (host := "") (Or.inl (w_38 hw)) (Via.of (w_39 hw)) e51 F_a1_asynchronous (g := (mkF m 34 #[.val (.ref a1), .val (.ref a1)] [(.ref a1), (.ref a1)])) rfl rfl (hb hby d8_34)
  refine WP.st st53 ?_
  clear st53
  show WP p.tables e below _ T53 (mkF m 37 #[.val (.ref a1), .val (.ref a1)] [(.int u_asynchronous), (.ref a1)])
  obtain ⟨T54, h54, X54, e54, W54, st54⟩ := putFN X53 hx hZ hown (w_38 hw) (Via.of (w_39 hw)) e53 F_a1_asynchronous E_a1 (Or.inl (w_40 hw)) (w_8 hw) (ty := .boolean) (v := (.int u_asynchronous)) (v' := (.int u_asynchronous)) (by decide) (congrArg Value.int (nar01 h01)) (ownFits (t := .boolean) (x := u_asynchronous) (congrArg Value.int (nar01 h01)) (fits_nar_bool _)) (g := (mkF m 37 #[.val (.ref a1), .val (.ref a1)] [(.int u_asynchronous), (.ref a1)])) rfl rfl (hb hby d8_37)
  refine WP.st st54 ?_
  clear st54
  replace E_a1 := E_a1.wr W54
  replace F_a1_what := F_a1_what.other W54 (Or.inr (sn_0 hw))
  replace F_a1_arg1 := F_a1_arg1.other W54 (Or.inr (sn_1 hw))
  replace F_a1_arg2 := F_a1_arg2.other W54 (Or.inr (sn_2 hw))
  replace F_a1_obj := F_a1_obj.other W54 (Or.inr (sn_3 hw))
  replace F_a1_asynchronous := F_a1_asynchronous.same W54
  replace F_a1_when := F_a1_when.other W54 (Or.inr (sn_4 hw))
  replace F_a1_callback := F_a1_callback.other W54 (Or.inr (sn_5 hw))
  replace Z0 := Nat.le_trans Z0 (Keep.of_wr W54).1
  replace KP := KP.wr W54 (Or.inl (List.mem_of_getElem? (i := 0) rfl))
  replace NF := Fr.snoc X54 NF g_a1
  clear W54
  have hXN : ∃ LL, Stand p l e ({ frames := 0, cells := 0, slots := 0, locals := 0 } : Room) s m #[(.ref a1), (.ref a1)] below meth c T54 LL 0 0 ∧ Fr n0 LL := ⟨_, X54, NF⟩
  clear X54 NF
  obtain ⟨LL55, X54, NF⟩ := hXN
  show WP p.tables e below _ T54 (mkF m 40 #[.val (.ref a1), .val (.ref a1)] [])
  subst hG
  obtain ⟨fs, hr, hrun, hended, hW, hsame⟩ := X54.leave (v := none) (fun _ => rfl)
  refine WP.fin ⟨_, _, ?_, hrun, hended, _, _, rfl, ?_, ⟨_, rfl⟩, hW, hsame.mono (by decide) (by decide)⟩
  · exact X54.returnOut hx Bd.returns (hb hby d8_40) hr
  · show Q8one Z a1 u_what u_arg1 u_arg2 u_obj u_asynchronous u_when u_callback h0 n0 _ T54.heap _
    rw [e54]
    exact ⟨rfl, NF, KP, F_a1_what, F_a1_arg1, F_a1_arg2, F_a1_obj, F_a1_asynchronous, F_a1_when, F_a1_callback⟩
theorem ef_0 (m : MethodId) (z0 : Int32) (z1 : Int32) (z2 : Int32) (z3 : Int32) (z4 : Int64) (z5 : Int32) : entryFrame m #[(.int z0), (.int z1), (.int z2), (.int z3), (.long z4), (.int z5)] maxLocals = mkF m 0 #[.val (.int z0), .val (.int z1), .val (.int z2), .val (.int z3), .val (.long z4), .second, .val (.int z5), .unset, .unset, .unset, .unset, .unset, .unset, .unset, .unset, .unset, .unset, .unset, .unset, .unset, .unset, .unset] [] := by
  all_goals first | (simp [entryFrame, mkF, argsToLocals, Value.category, maxLocals]; done) | rfl
theorem w_0 {a0 : Array Value} {Z : State} (hw : ∀ d ∈ tables_1, d.before a0 Z = true) : (Jvm.Cond.methodLink "com/example/hasten/hasten/MessageCopyFromPinLaw" (7 : Nat) ({ cls := "java/lang/Integer", name := "valueOf", desc := "(I)Ljava/lang/Integer;" } : Jvm.MethodName)).before a0 Z = true := hw _ (List.mem_of_getElem? (i := 0) rfl)
theorem w_3 {a0 : Array Value} {Z : State} (hw : ∀ d ∈ tables_1, d.before a0 Z = true) : (Jvm.Cond.code ({ cls := "java/lang/Integer", name := "valueOf", desc := "(I)Ljava/lang/Integer;" } : Jvm.MethodName) jdk_33_method_22_code (1 : Nat) (Option.some (Jvm.ClassFile.FieldType.object "java/lang/Integer"))).before a0 Z = true := hw _ (List.mem_of_getElem? (i := 3) rfl)
theorem pd_2 : parseMethodDescriptor "(I)Ljava/lang/Integer;" = some ⟨[.int], some (.object "java/lang/Integer")⟩ := by decide +kernel
theorem w_1 {a0 : Array Value} {Z : State} (hw : ∀ d ∈ tables_1, d.before a0 Z = true) : (Jvm.Cond.static ({ cls := "java/lang/Integer", name := "valueOf", desc := "(I)Ljava/lang/Integer;" } : Jvm.MethodName)).before a0 Z = true := hw _ (List.mem_of_getElem? (i := 1) rfl)
theorem w_7 {a0 : Array Value} {Z : State} (hw : ∀ d ∈ tables_1, d.before a0 Z = true) : (Jvm.Cond.classLink "com/example/hasten/hasten/MessageCopyFromPinLaw" (13 : Nat) "com/example/hasten/hasten/Message").before a0 Z = true := hw _ (List.mem_of_getElem? (i := 7) rfl)
theorem w_9 {a0 : Array Value} {Z : State} (hw : ∀ d ∈ tables_1, d.before a0 Z = true) : (Jvm.Cond.initialized "com/example/hasten/hasten/Message").before a0 Z = true := hw _ (List.mem_of_getElem? (i := 9) rfl)
theorem w_10 {a0 : Array Value} {Z : State} (hw : ∀ d ∈ tables_1, d.before a0 Z = true) : (Jvm.Cond.methodLink "com/example/hasten/hasten/MessageCopyFromPinLaw" (15 : Nat) ({ cls := "com/example/hasten/hasten/Message", name := "<init>", desc := "()V" } : Jvm.MethodName)).before a0 Z = true := hw _ (List.mem_of_getElem? (i := 10) rfl)
theorem w_12 {a0 : Array Value} {Z : State} (hw : ∀ d ∈ tables_1, d.before a0 Z = true) : (Jvm.Cond.code ({ cls := "com/example/hasten/hasten/Message", name := "<init>", desc := "()V" } : Jvm.MethodName) prog_32_method_1_code (1 : Nat) (Option.none : Option Jvm.ClassFile.FieldType)).before a0 Z = true := hw _ (List.mem_of_getElem? (i := 12) rfl)
theorem w_11 {a0 : Array Value} {Z : State} (hw : ∀ d ∈ tables_1, d.before a0 Z = true) : (Jvm.Cond.instanceMethod ({ cls := "com/example/hasten/hasten/Message", name := "<init>", desc := "()V" } : Jvm.MethodName)).before a0 Z = true := hw _ (List.mem_of_getElem? (i := 11) rfl)
theorem w_21 {a0 : Array Value} {Z : State} (hw : ∀ d ∈ tables_1, d.before a0 Z = true) : (Jvm.Cond.methodLink "com/example/hasten/hasten/MessageCopyFromPinLaw" (16 : Nat) ({ cls := "com/example/hasten/hasten/MessageCopyFromPinLaw", name := "pick", desc := "(ILjava/lang/Object;Ljava/lang/Object;)Ljava/lang/Object;" } : Jvm.MethodName)).before a0 Z = true := hw _ (List.mem_of_getElem? (i := 21) rfl)
theorem w_24 {a0 : Array Value} {Z : State} (hw : ∀ d ∈ tables_1, d.before a0 Z = true) : (Jvm.Cond.code ({ cls := "com/example/hasten/hasten/MessageCopyFromPinLaw", name := "pick", desc := "(ILjava/lang/Object;Ljava/lang/Object;)Ljava/lang/Object;" } : Jvm.MethodName) method_3_code (3 : Nat) (Option.some (Jvm.ClassFile.FieldType.object "java/lang/Object"))).before a0 Z = true := hw _ (List.mem_of_getElem? (i := 24) rfl)
theorem w_23 {a0 : Array Value} {Z : State} (hw : ∀ d ∈ tables_1, d.before a0 Z = true) : (Jvm.Cond.initialized "com/example/hasten/hasten/MessageCopyFromPinLaw").before a0 Z = true := hw _ (List.mem_of_getElem? (i := 23) rfl)
theorem pd_3 : parseMethodDescriptor "(ILjava/lang/Object;Ljava/lang/Object;)Ljava/lang/Object;" = some ⟨[.int, (.object "java/lang/Object"), (.object "java/lang/Object")], some (.object "java/lang/Object")⟩ := by decide +kernel
theorem w_22 {a0 : Array Value} {Z : State} (hw : ∀ d ∈ tables_1, d.before a0 Z = true) : (Jvm.Cond.static ({ cls := "com/example/hasten/hasten/MessageCopyFromPinLaw", name := "pick", desc := "(ILjava/lang/Object;Ljava/lang/Object;)Ljava/lang/Object;" } : Jvm.MethodName)).before a0 Z = true := hw _ (List.mem_of_getElem? (i := 22) rfl)
theorem w_25 {a0 : Array Value} {Z : State} (hw : ∀ d ∈ tables_1, d.before a0 Z = true) : (Jvm.Cond.fieldLink "com/example/hasten/hasten/MessageCopyFromPinLaw" (22 : Nat) "com/example/hasten/hasten/Message" "what" "I").before a0 Z = true := hw _ (List.mem_of_getElem? (i := 25) rfl)
theorem w_27 {a0 : Array Value} {Z : State} (hw : ∀ d ∈ tables_1, d.before a0 Z = true) : (Jvm.Cond.fieldLink "com/example/hasten/hasten/MessageCopyFromPinLaw" (26 : Nat) "com/example/hasten/hasten/Message" "arg1" "I").before a0 Z = true := hw _ (List.mem_of_getElem? (i := 27) rfl)
theorem w_29 {a0 : Array Value} {Z : State} (hw : ∀ d ∈ tables_1, d.before a0 Z = true) : (Jvm.Cond.fieldLink "com/example/hasten/hasten/MessageCopyFromPinLaw" (29 : Nat) "com/example/hasten/hasten/Message" "arg2" "I").before a0 Z = true := hw _ (List.mem_of_getElem? (i := 29) rfl)
theorem w_31 {a0 : Array Value} {Z : State} (hw : ∀ d ∈ tables_1, d.before a0 Z = true) : (Jvm.Cond.fieldLink "com/example/hasten/hasten/MessageCopyFromPinLaw" (32 : Nat) "com/example/hasten/hasten/Message" "obj" "Ljava/lang/Object;").before a0 Z = true := hw _ (List.mem_of_getElem? (i := 31) rfl)
theorem w_33 {a0 : Array Value} {Z : State} (hw : ∀ d ∈ tables_1, d.before a0 Z = true) : (Jvm.Cond.methodLink "com/example/hasten/hasten/MessageCopyFromPinLaw" (36 : Nat) ({ cls := "com/example/hasten/hasten/Message", name := "setAsynchronous", desc := "(Z)V" } : Jvm.MethodName)).before a0 Z = true := hw _ (List.mem_of_getElem? (i := 33) rfl)
theorem w_37 {a0 : Array Value} {Z : State} (hw : ∀ d ∈ tables_1, d.before a0 Z = true) : (Jvm.Cond.code ({ cls := "com/example/hasten/hasten/Message", name := "setAsynchronous", desc := "(Z)V" } : Jvm.MethodName) prog_32_method_14_code (2 : Nat) (Option.none : Option Jvm.ClassFile.FieldType)).before a0 Z = true := hw _ (List.mem_of_getElem? (i := 37) rfl)
theorem pd_4 : parseMethodDescriptor "(Z)V" = some ⟨[.boolean], none⟩ := by decide +kernel
theorem w_36 {a0 : Array Value} {Z : State} (hw : ∀ d ∈ tables_1, d.before a0 Z = true) : (Jvm.Cond.selects "com/example/hasten/hasten/Message" ({ cls := "com/example/hasten/hasten/Message", name := "setAsynchronous", desc := "(Z)V" } : Jvm.MethodName) ({ cls := "com/example/hasten/hasten/Message", name := "setAsynchronous", desc := "(Z)V" } : Jvm.MethodName)).before a0 Z = true := hw _ (List.mem_of_getElem? (i := 36) rfl)
theorem w_34 {a0 : Array Value} {Z : State} (hw : ∀ d ∈ tables_1, d.before a0 Z = true) : (Jvm.Cond.declares ({ cls := "com/example/hasten/hasten/Message", name := "setAsynchronous", desc := "(Z)V" } : Jvm.MethodName)).before a0 Z = true := hw _ (List.mem_of_getElem? (i := 34) rfl)
theorem w_35 {a0 : Array Value} {Z : State} (hw : ∀ d ∈ tables_1, d.before a0 Z = true) : (Jvm.Cond.instanceMethod ({ cls := "com/example/hasten/hasten/Message", name := "setAsynchronous", desc := "(Z)V" } : Jvm.MethodName)).before a0 Z = true := hw _ (List.mem_of_getElem? (i := 35) rfl)
theorem w_41 {a0 : Array Value} {Z : State} (hw : ∀ d ∈ tables_1, d.before a0 Z = true) : (Jvm.Cond.fieldLink "com/example/hasten/hasten/MessageCopyFromPinLaw" (40 : Nat) "com/example/hasten/hasten/Message" "when" "J").before a0 Z = true := hw _ (List.mem_of_getElem? (i := 41) rfl)
theorem sn_30 {a0 : Array Value} {Z : State} (hw : ∀ d ∈ tables_1, d.before a0 Z = true) : Jvm.RoadKit.slotOf Z "com/example/hasten/hasten/Message" "what" "I" ≠ Jvm.RoadKit.slotOf Z "com/example/hasten/hasten/Envelope" "when" "J" := slot_ne (Or.inl (w_26 hw)) (Or.inl (w_43 hw)) (by decide) (t := .int) (t' := .long) (by decide) (by decide)
theorem sn_31 {a0 : Array Value} {Z : State} (hw : ∀ d ∈ tables_1, d.before a0 Z = true) : Jvm.RoadKit.slotOf Z "com/example/hasten/hasten/Message" "arg1" "I" ≠ Jvm.RoadKit.slotOf Z "com/example/hasten/hasten/Envelope" "when" "J" := slot_ne (Or.inl (w_28 hw)) (Or.inl (w_43 hw)) (by decide) (t := .int) (t' := .long) (by decide) (by decide)
theorem sn_32 {a0 : Array Value} {Z : State} (hw : ∀ d ∈ tables_1, d.before a0 Z = true) : Jvm.RoadKit.slotOf Z "com/example/hasten/hasten/Message" "arg2" "I" ≠ Jvm.RoadKit.slotOf Z "com/example/hasten/hasten/Envelope" "when" "J" := slot_ne (Or.inl (w_30 hw)) (Or.inl (w_43 hw)) (by decide) (t := .int) (t' := .long) (by decide) (by decide)
theorem sn_33 {a0 : Array Value} {Z : State} (hw : ∀ d ∈ tables_1, d.before a0 Z = true) : Jvm.RoadKit.slotOf Z "com/example/hasten/hasten/Message" "obj" "Ljava/lang/Object;" ≠ Jvm.RoadKit.slotOf Z "com/example/hasten/hasten/Envelope" "when" "J" := slot_ne (Or.inl (w_32 hw)) (Or.inl (w_43 hw)) (by decide) (t := (.object "java/lang/Object")) (t' := .long) (by decide) (by decide)
theorem sn_34 {a0 : Array Value} {Z : State} (hw : ∀ d ∈ tables_1, d.before a0 Z = true) : Jvm.RoadKit.slotOf Z "com/example/hasten/hasten/Envelope" "asynchronous" "Z" ≠ Jvm.RoadKit.slotOf Z "com/example/hasten/hasten/Envelope" "when" "J" := slot_ne (Or.inl (w_40 hw)) (Or.inl (w_43 hw)) (by decide) (t := .boolean) (t' := .long) (by decide) (by decide)
theorem sn_35 {a0 : Array Value} {Z : State} (hw : ∀ d ∈ tables_1, d.before a0 Z = true) : Jvm.RoadKit.slotOf Z "com/example/hasten/hasten/Envelope" "callback" "Ljava/lang/Runnable;" ≠ Jvm.RoadKit.slotOf Z "com/example/hasten/hasten/Envelope" "when" "J" := slot_ne (Or.inl (w_72 hw)) (Or.inl (w_43 hw)) (by decide) (t := (.object "java/lang/Runnable")) (t' := .long) (by decide) (by decide)
theorem w_44 {a0 : Array Value} {Z : State} (hw : ∀ d ∈ tables_1, d.before a0 Z = true) : (Jvm.Cond.constantLong "com/example/hasten/hasten/MessageCopyFromPinLaw" (44 : Nat) (-1 : Int64)).before a0 Z = true := hw _ (List.mem_of_getElem? (i := 44) rfl)
theorem w_45 {a0 : Array Value} {Z : State} (hw : ∀ d ∈ tables_1, d.before a0 Z = true) : (Jvm.Cond.methodLink "com/example/hasten/hasten/MessageCopyFromPinLaw" (46 : Nat) ({ cls := "com/example/hasten/hasten/Message", name := "getWhen", desc := "()J" } : Jvm.MethodName)).before a0 Z = true := hw _ (List.mem_of_getElem? (i := 45) rfl)
theorem w_49 {a0 : Array Value} {Z : State} (hw : ∀ d ∈ tables_1, d.before a0 Z = true) : (Jvm.Cond.code ({ cls := "com/example/hasten/hasten/Message", name := "getWhen", desc := "()J" } : Jvm.MethodName) prog_32_method_12_code (1 : Nat) (Option.some Jvm.ClassFile.FieldType.long)).before a0 Z = true := hw _ (List.mem_of_getElem? (i := 49) rfl)
theorem pd_5 : parseMethodDescriptor "()J" = some ⟨[], some .long⟩ := by decide +kernel
theorem w_48 {a0 : Array Value} {Z : State} (hw : ∀ d ∈ tables_1, d.before a0 Z = true) : (Jvm.Cond.selects "com/example/hasten/hasten/Message" ({ cls := "com/example/hasten/hasten/Message", name := "getWhen", desc := "()J" } : Jvm.MethodName) ({ cls := "com/example/hasten/hasten/Message", name := "getWhen", desc := "()J" } : Jvm.MethodName)).before a0 Z = true := hw _ (List.mem_of_getElem? (i := 48) rfl)
theorem w_46 {a0 : Array Value} {Z : State} (hw : ∀ d ∈ tables_1, d.before a0 Z = true) : (Jvm.Cond.declares ({ cls := "com/example/hasten/hasten/Message", name := "getWhen", desc := "()J" } : Jvm.MethodName)).before a0 Z = true := hw _ (List.mem_of_getElem? (i := 46) rfl)
theorem w_47 {a0 : Array Value} {Z : State} (hw : ∀ d ∈ tables_1, d.before a0 Z = true) : (Jvm.Cond.instanceMethod ({ cls := "com/example/hasten/hasten/Message", name := "getWhen", desc := "()J" } : Jvm.MethodName)).before a0 Z = true := hw _ (List.mem_of_getElem? (i := 47) rfl)
theorem w_51 {a0 : Array Value} {Z : State} (hw : ∀ d ∈ tables_1, d.before a0 Z = true) : (Jvm.Cond.methodLink "com/example/hasten/hasten/MessageCopyFromPinLaw" (50 : Nat) ({ cls := "com/example/hasten/hasten/Message", name := "copyFrom", desc := "(Lcom/example/hasten/hasten/Message;)V" } : Jvm.MethodName)).before a0 Z = true := hw _ (List.mem_of_getElem? (i := 51) rfl)
theorem w_55 {a0 : Array Value} {Z : State} (hw : ∀ d ∈ tables_1, d.before a0 Z = true) : (Jvm.Cond.code ({ cls := "com/example/hasten/hasten/Message", name := "copyFrom", desc := "(Lcom/example/hasten/hasten/Message;)V" } : Jvm.MethodName) prog_32_method_15_code (2 : Nat) (Option.none : Option Jvm.ClassFile.FieldType)).before a0 Z = true := hw _ (List.mem_of_getElem? (i := 55) rfl)
theorem pd_6 : parseMethodDescriptor "(Lcom/example/hasten/hasten/Message;)V" = some ⟨[(.object "com/example/hasten/hasten/Message")], none⟩ := by decide +kernel
theorem w_54 {a0 : Array Value} {Z : State} (hw : ∀ d ∈ tables_1, d.before a0 Z = true) : (Jvm.Cond.selects "com/example/hasten/hasten/Message" ({ cls := "com/example/hasten/hasten/Message", name := "copyFrom", desc := "(Lcom/example/hasten/hasten/Message;)V" } : Jvm.MethodName) ({ cls := "com/example/hasten/hasten/Message", name := "copyFrom", desc := "(Lcom/example/hasten/hasten/Message;)V" } : Jvm.MethodName)).before a0 Z = true := hw _ (List.mem_of_getElem? (i := 54) rfl)
theorem w_52 {a0 : Array Value} {Z : State} (hw : ∀ d ∈ tables_1, d.before a0 Z = true) : (Jvm.Cond.declares ({ cls := "com/example/hasten/hasten/Message", name := "copyFrom", desc := "(Lcom/example/hasten/hasten/Message;)V" } : Jvm.MethodName)).before a0 Z = true := hw _ (List.mem_of_getElem? (i := 52) rfl)
theorem w_53 {a0 : Array Value} {Z : State} (hw : ∀ d ∈ tables_1, d.before a0 Z = true) : (Jvm.Cond.instanceMethod ({ cls := "com/example/hasten/hasten/Message", name := "copyFrom", desc := "(Lcom/example/hasten/hasten/Message;)V" } : Jvm.MethodName)).before a0 Z = true := hw _ (List.mem_of_getElem? (i := 53) rfl)
theorem w_60 {a0 : Array Value} {Z : State} (hw : ∀ d ∈ tables_1, d.before a0 Z = true) : (Jvm.Cond.methodLink "com/example/hasten/hasten/MessageCopyFromPinLaw" (54 : Nat) ({ cls := "com/example/hasten/hasten/Message", name := "isAsynchronous", desc := "()Z" } : Jvm.MethodName)).before a0 Z = true := hw _ (List.mem_of_getElem? (i := 60) rfl)
theorem w_64 {a0 : Array Value} {Z : State} (hw : ∀ d ∈ tables_1, d.before a0 Z = true) : (Jvm.Cond.code ({ cls := "com/example/hasten/hasten/Message", name := "isAsynchronous", desc := "()Z" } : Jvm.MethodName) prog_32_method_13_code (1 : Nat) (Option.some Jvm.ClassFile.FieldType.boolean)).before a0 Z = true := hw _ (List.mem_of_getElem? (i := 64) rfl)
theorem pd_7 : parseMethodDescriptor "()Z" = some ⟨[], some .boolean⟩ := by decide +kernel
theorem w_63 {a0 : Array Value} {Z : State} (hw : ∀ d ∈ tables_1, d.before a0 Z = true) : (Jvm.Cond.selects "com/example/hasten/hasten/Message" ({ cls := "com/example/hasten/hasten/Message", name := "isAsynchronous", desc := "()Z" } : Jvm.MethodName) ({ cls := "com/example/hasten/hasten/Message", name := "isAsynchronous", desc := "()Z" } : Jvm.MethodName)).before a0 Z = true := hw _ (List.mem_of_getElem? (i := 63) rfl)
theorem w_61 {a0 : Array Value} {Z : State} (hw : ∀ d ∈ tables_1, d.before a0 Z = true) : (Jvm.Cond.declares ({ cls := "com/example/hasten/hasten/Message", name := "isAsynchronous", desc := "()Z" } : Jvm.MethodName)).before a0 Z = true := hw _ (List.mem_of_getElem? (i := 61) rfl)
theorem w_62 {a0 : Array Value} {Z : State} (hw : ∀ d ∈ tables_1, d.before a0 Z = true) : (Jvm.Cond.instanceMethod ({ cls := "com/example/hasten/hasten/Message", name := "isAsynchronous", desc := "()Z" } : Jvm.MethodName)).before a0 Z = true := hw _ (List.mem_of_getElem? (i := 62) rfl)
theorem w_65 {a0 : Array Value} {Z : State} (hw : ∀ d ∈ tables_1, d.before a0 Z = true) : (Jvm.Cond.methodLink "com/example/hasten/hasten/MessageCopyFromPinLaw" (58 : Nat) ({ cls := "com/example/hasten/hasten/Message", name := "getCallback", desc := "()Ljava/lang/Runnable;" } : Jvm.MethodName)).before a0 Z = true := hw _ (List.mem_of_getElem? (i := 65) rfl)
theorem w_69 {a0 : Array Value} {Z : State} (hw : ∀ d ∈ tables_1, d.before a0 Z = true) : (Jvm.Cond.code ({ cls := "com/example/hasten/hasten/Message", name := "getCallback", desc := "()Ljava/lang/Runnable;" } : Jvm.MethodName) prog_32_method_18_code (1 : Nat) (Option.some (Jvm.ClassFile.FieldType.object "java/lang/Runnable"))).before a0 Z = true := hw _ (List.mem_of_getElem? (i := 69) rfl)
theorem pd_8 : parseMethodDescriptor "()Ljava/lang/Runnable;" = some ⟨[], some (.object "java/lang/Runnable")⟩ := by decide +kernel
theorem w_68 {a0 : Array Value} {Z : State} (hw : ∀ d ∈ tables_1, d.before a0 Z = true) : (Jvm.Cond.selects "com/example/hasten/hasten/Message" ({ cls := "com/example/hasten/hasten/Message", name := "getCallback", desc := "()Ljava/lang/Runnable;" } : Jvm.MethodName) ({ cls := "com/example/hasten/hasten/Message", name := "getCallback", desc := "()Ljava/lang/Runnable;" } : Jvm.MethodName)).before a0 Z = true := hw _ (List.mem_of_getElem? (i := 68) rfl)
theorem w_66 {a0 : Array Value} {Z : State} (hw : ∀ d ∈ tables_1, d.before a0 Z = true) : (Jvm.Cond.declares ({ cls := "com/example/hasten/hasten/Message", name := "getCallback", desc := "()Ljava/lang/Runnable;" } : Jvm.MethodName)).before a0 Z = true := hw _ (List.mem_of_getElem? (i := 66) rfl)
theorem w_67 {a0 : Array Value} {Z : State} (hw : ∀ d ∈ tables_1, d.before a0 Z = true) : (Jvm.Cond.instanceMethod ({ cls := "com/example/hasten/hasten/Message", name := "getCallback", desc := "()Ljava/lang/Runnable;" } : Jvm.MethodName)).before a0 Z = true := hw _ (List.mem_of_getElem? (i := 67) rfl)
def Q0 (Z : State) (p1 : Int32) (p2 : Int32) (p3 : Int32) (p4 : Int32) (q5 : Int64) (p6 : Int32) (ca : Addr) (cl : Cell) (h0 : Heap) (n0 : Nat) (v : Option Value) (h : Heap) (L : List Loc) : Prop := v = some (.int 1) ∧ Fr n0 L
set_option maxRecDepth 65536 in
set_option maxHeartbeats 40000000 in
theorem rm0 (l : Launch) (Z : State) (a0 : Array Value) (hw : ∀ d ∈ tables_1, d.before a0 Z = true) (wsC : List Jvm.Cond) (p1 : Int32) (p2 : Int32) (p3 : Int32) (p4 : Int32) (q5 : Int64) (p6 : Int32) (ca : Addr) (cl : Cell) (h0 : Heap) (n0 : Nat) (Z0 : n0 ≤ h0.size) (U_java_lang_Integer_IntegerCache_high : Sta Z h0 "java/lang/Integer$IntegerCache" "high" "I" (.int (127 : Int32))) (U_java_lang_Integer_IntegerCache_cache : Sta Z h0 "java/lang/Integer$IntegerCache" "cache" "[Ljava/lang/Integer;" (.ref ca)) (hAr : Arr Z h0 ca cl (.object "java/lang/Integer")) (hsz : cl.slots.size = 256) (hel : ∀ j : Int32, ¬ (j < 0 ∨ cl.slots.size ≤ j.toNatClampNeg) → ∃ b : Addr, cl.slots[j.toNatClampNeg]? = some (.ref b)) :
    MetFree l x (head1 (Jvm.Cond.code x code maxLocals ret :: wsC) room_1) (fun a U => a = #[(.int p1), (.int p2), (.int p3), (.int p4), (.long q5), (.int p6)] ∧ Z.Warmed39 U.vm ∧ U.heap = h0) (fun _ _ _ _ _ => True) (fun _ U o U' => ∃ v L, o = .returned v ∧ Q0 Z p1 p2 p3 p4 q5 p6 ca cl h0 n0 v U'.heap L ∧ FrameEnd U o U' L room_1.cells room_1.slots) := by
  refine MetFree.of_bodySF (plainFor_of_name pn_4) hisR ?_
  intro p e s m args below meth c s₁ Bd hml0 hP hK
  obtain ⟨rfl, hZ, hh⟩ := hP
  have hx := Bd.exec
  have hby := Bd.bytes
  have hml : c.maxLocals = 22 := hml0
  have hown : s.vm.findClass "com/example/hasten/hasten/MessageCopyFromPinLaw" = some m.cls := findClass_of_methodNamed Bd.named
  have hnm := (name_of_methodNamed Bd.named Bd.method).1
  have X0 : Stand p l e room_1 s m #[(.int p1), (.int p2), (.int p3), (.int p4), (.long q5), (.int p6)] below meth c s₁ [] 0 0 := Stand.of_body Bd
  have e0 : s₁.heap = h0 := by rw [← hh, Bd.state]; rfl
  have NF := Fr.nil n0
  refine WP.go ?_
  refine WP.cast (ef_0 m p1 p2 p3 p4 q5 p6) ?_
  refine WP.name ?_
  intro G hG
  refine WP.st (T' := s₁) (f' := (mkF m 4 #[.val (.int p1), .val (.int p2), .val (.int p3), .val (.int p4), .val (.long q5), .second, .val (.int p6), .unset, .unset, .unset, .unset, .unset, .unset, .unset, .unset, .unset, .unset, .unset, .unset, .unset, .unset, .unset] [(.int (p6 &&& (1 : Int32)))])) (fun t k => ?_) ?_
  · refine XS.iload X0.here hx rfl (hb hby at_0) rfl ?_
    show Steps p.tables e below (s₁.setTop (mkF m 2 #[.val (.int p1), .val (.int p2), .val (.int p3), .val (.int p4), .val (.long q5), .second, .val (.int p6), .unset, .unset, .unset, .unset, .unset, .unset, .unset, .unset, .unset, .unset, .unset, .unset, .unset, .unset, .unset] [(.int p6)])) t
    refine XS.iconst X0.here hx rfl (hb hby at_2) ?_
    show Steps p.tables e below (s₁.setTop (mkF m 3 #[.val (.int p1), .val (.int p2), .val (.int p3), .val (.int p4), .val (.long q5), .second, .val (.int p6), .unset, .unset, .unset, .unset, .unset, .unset, .unset, .unset, .unset, .unset, .unset, .unset, .unset, .unset, .unset] [(.int (1 : Int32)), (.int p6)])) t
    refine XS.iand X0.here hx rfl (hb hby at_3) rfl ?_
    exact k
  by_cases hc56 : (p6 &&& (1 : Int32)) = (0 : Int32)
  · skip
    refine WP.st (T' := s₁) (f' := (mkF m 14 #[.val (.int p1), .val (.int p2), .val (.int p3), .val (.int p4), .val (.long q5), .second, .val (.int p6), .val (.int (0 : Int32)), .unset, .unset, .unset, .unset, .unset, .unset, .unset, .unset, .unset, .unset, .unset, .unset, .unset, .unset] [])) (fun t k => ?_) ?_
    · refine XS.ifYes X0.here hx rfl (pc0 := 4) (pc' := 11) rfl (hb hby at_4) rfl ((if0 _ _).trans (teq hc56).1) (by decide) (by decide) ?_
      show Steps p.tables e below (s₁.setTop (mkF m 11 #[.val (.int p1), .val (.int p2), .val (.int p3), .val (.int p4), .val (.long q5), .second, .val (.int p6), .unset, .unset, .unset, .unset, .unset, .unset, .unset, .unset, .unset, .unset, .unset, .unset, .unset, .unset, .unset] [])) t
      refine XS.iconst X0.here hx rfl (hb hby at_11) ?_
      show Steps p.tables e below (s₁.setTop (mkF m 12 #[.val (.int p1), .val (.int p2), .val (.int p3), .val (.int p4), .val (.long q5), .second, .val (.int p6), .unset, .unset, .unset, .unset, .unset, .unset, .unset, .unset, .unset, .unset, .unset, .unset, .unset, .unset, .unset] [(.int (0 : Int32))])) t
      refine XS.istore X0.here hx rfl (hb hby at_12) rfl (l' := #[.val (.int p1), .val (.int p2), .val (.int p3), .val (.int p4), .val (.long q5), .second, .val (.int p6), .val (.int (0 : Int32)), .unset, .unset, .unset, .unset, .unset, .unset, .unset, .unset, .unset, .unset, .unset, .unset, .unset, .unset]) rfl ?_
      exact k
    have J57 : ∀ (Tj57 : State) (Lj57 : List Loc)  (sa : Int32), Stand p l e room_1 s m #[(.int p1), (.int p2), (.int p3), (.int p4), (.long q5), (.int p6)] below meth c Tj57 Lj57 0 0 → Tj57.heap = h0 → Fr n0 Lj57 → (sa = 0 ∨ sa = 1) → WP p.tables e below G Tj57 (mkF m 26 #[.val (.int p1), .val (.int p2), .val (.int p3), .val (.int p4), .val (.long q5), .second, .val (.int p6), .val (.int (0 : Int32)), .unset, .unset, .unset, .unset, .unset, .unset, .unset, .unset, .unset, .unset, .unset, .unset, .unset, .unset] [(.int sa)]) := by
      clear NF
      intro Tj57 Lj57  sa X57 ej57 NF hsa
      refine WP.st (T' := Tj57) (f' := (mkF m 28 #[.val (.int p1), .val (.int p2), .val (.int p3), .val (.int p4), .val (.long q5), .second, .val (.int p6), .val (.int (0 : Int32)), .val (.int sa), .unset, .unset, .unset, .unset, .unset, .unset, .unset, .unset, .unset, .unset, .unset, .unset, .unset] [])) (fun t k => ?_) ?_
      · refine XS.istore X57.here hx rfl (hb hby at_26) rfl (l' := #[.val (.int p1), .val (.int p2), .val (.int p3), .val (.int p4), .val (.long q5), .second, .val (.int p6), .val (.int (0 : Int32)), .val (.int sa), .unset, .unset, .unset, .unset, .unset, .unset, .unset, .unset, .unset, .unset, .unset, .unset, .unset]) rfl ?_
        exact k
      have J58 : ∀ (Tj58 : State) (Lj58 : List Loc)  (da : Int32), Stand p l e room_1 s m #[(.int p1), (.int p2), (.int p3), (.int p4), (.long q5), (.int p6)] below meth c Tj58 Lj58 0 0 → Tj58.heap = h0 → Fr n0 Lj58 → (da = 0 ∨ da = 1) → WP p.tables e below G Tj58 (mkF m 40 #[.val (.int p1), .val (.int p2), .val (.int p3), .val (.int p4), .val (.long q5), .second, .val (.int p6), .val (.int (0 : Int32)), .val (.int sa), .unset, .unset, .unset, .unset, .unset, .unset, .unset, .unset, .unset, .unset, .unset, .unset, .unset] [(.int da)]) := by
        clear NF
        intro Tj58 Lj58  da X58 ej58 NF hda
        refine WP.st (T' := Tj58) (f' := (mkF m 43 #[.val (.int p1), .val (.int p2), .val (.int p3), .val (.int p4), .val (.long q5), .second, .val (.int p6), .val (.int (0 : Int32)), .val (.int sa), .val (.int da), .unset, .unset, .unset, .unset, .unset, .unset, .unset, .unset, .unset, .unset, .unset, .unset] [(.int p2)])) (fun t k => ?_) ?_
        · refine XS.istore X58.here hx rfl (hb hby at_40) rfl (l' := #[.val (.int p1), .val (.int p2), .val (.int p3), .val (.int p4), .val (.long q5), .second, .val (.int p6), .val (.int (0 : Int32)), .val (.int sa), .val (.int da), .unset, .unset, .unset, .unset, .unset, .unset, .unset, .unset, .unset, .unset, .unset, .unset]) rfl ?_
          show Steps p.tables e below (Tj58.setTop (mkF m 42 #[.val (.int p1), .val (.int p2), .val (.int p3), .val (.int p4), .val (.long q5), .second, .val (.int p6), .val (.int (0 : Int32)), .val (.int sa), .val (.int da), .unset, .unset, .unset, .unset, .unset, .unset, .unset, .unset, .unset, .unset, .unset, .unset] [])) t
          refine XS.iloadN X58.here hx rfl (hb hby at_42) rfl ?_
          exact k
        obtain ⟨_, _, ⟨T59, L59, k59, n59⟩, -, X59, ⟨Lc59, hQ59, l59, y59, z59⟩, st59⟩ := Jvm.LawKit.callS X58 hx (y := (⟨"java/lang/Integer", "valueOf", "(I)Ljava/lang/Integer;"⟩ : MethodName)) hown (mvT hZ (w_0 hw)) (mvT hZ (w_1 hw)) (mvT hZ (w_2 hw)) (mvT hZ (w_3 hw)) (by decide) (backOf (W := 0) (rm1 l Z a0 hw [] p2 ca cl h0 n0 Z0 U_java_lang_Integer_IntegerCache_high U_java_lang_Integer_IntegerCache_cache (hAr : Arr Z h0 ca cl (.object "java/lang/Integer")) (hsz : cl.slots.size = 256) (hel : ∀ j : Int32, ¬ (j < 0 ∨ cl.slots.size ≤ j.toNatClampNeg) → ∃ b : Addr, cl.slots[j.toNatClampNeg]? = some (.ref b))) hZ (w_3 hw) (w_2 hw) (by decide) (by decide)) (g := (mkF m 43 #[.val (.int p1), .val (.int p2), .val (.int p3), .val (.int p4), .val (.long q5), .second, .val (.int p6), .val (.int (0 : Int32)), .val (.int sa), .val (.int da), .unset, .unset, .unset, .unset, .unset, .unset, .unset, .unset, .unset, .unset, .unset, .unset] [(.int p2)])) rfl (by rw [hml]; rfl) (argsL := [(.int p2)]) (rest := []) (lenOf pd_2 rfl) rfl (by show 2 * 0 + _ ≤ _; exact Nat.le_of_eq rfl) (hb hby at_43) (fun _ _ => ⟨rfl, ej58, (by decide : 0 + 1 ≤ _), (by decide : 0 + 1 ≤ _)⟩)
        dsimp only [Pt.U, Pt.locs, Pt.cells, Pt.slots] at X59 l59 y59 z59 st59 hQ59
        subst l59 y59 z59
        obtain ⟨r_59, rfl, Nq59, Kq59⟩ := hQ59
        replace NF := Fr.app NF Nq59
        clear Nq59
        refine WP.st st59 ?_
        clear st59
        obtain ⟨h59, e59⟩ : ∃ h, T59.heap = h := ⟨_, rfl⟩
        rw [e59] at Kq59
        clear U_java_lang_Integer_IntegerCache_high
        clear U_java_lang_Integer_IntegerCache_cache
        replace Z0 := Nat.le_trans Z0 Kq59.1
        clear Kq59
        have hXN : ∃ LL, Stand p l e room_1 s m #[(.int p1), (.int p2), (.int p3), (.int p4), (.long q5), (.int p6)] below meth c T59 LL 1 1 ∧ Fr n0 LL := ⟨_, X59, NF⟩
        clear X59 NF
        obtain ⟨LL60, X59, NF⟩ := hXN
        show WP p.tables e below _ T59 (mkF m 46 #[.val (.int p1), .val (.int p2), .val (.int p3), .val (.int p4), .val (.long q5), .second, .val (.int p6), .val (.int (0 : Int32)), .val (.int sa), .val (.int da), .unset, .unset, .unset, .unset, .unset, .unset, .unset, .unset, .unset, .unset, .unset, .unset] [(.ref r_59)])
        refine WP.st (T' := T59) (f' := (mkF m 48 #[.val (.int p1), .val (.int p2), .val (.int p3), .val (.int p4), .val (.long q5), .second, .val (.int p6), .val (.int (0 : Int32)), .val (.int sa), .val (.int da), .val (.ref r_59), .unset, .unset, .unset, .unset, .unset, .unset, .unset, .unset, .unset, .unset, .unset] [])) (fun t k => ?_) ?_
        · refine XS.astore X59.here hx rfl (hb hby at_46) rfl rfl (l' := #[.val (.int p1), .val (.int p2), .val (.int p3), .val (.int p4), .val (.long q5), .second, .val (.int p6), .val (.int (0 : Int32)), .val (.int sa), .val (.int da), .val (.ref r_59), .unset, .unset, .unset, .unset, .unset, .unset, .unset, .unset, .unset, .unset, .unset]) rfl ?_
          exact k
        obtain ⟨T61, h61, X61, e61, E61, A61, D61, -, st61⟩ := newO X59 hx hZ hown (w_7 hw) (w_8 hw) (w_9 hw) e59 (g := (mkF m 48 #[.val (.int p1), .val (.int p2), .val (.int p3), .val (.int p4), .val (.long q5), .second, .val (.int p6), .val (.int (0 : Int32)), .val (.int sa), .val (.int da), .val (.ref r_59), .unset, .unset, .unset, .unset, .unset, .unset, .unset, .unset, .unset, .unset, .unset] [])) rfl (hb hby at_48) (by decide) (by decide)
        obtain ⟨b61, g61⟩ : ∃ z, z = h59.size := ⟨_, rfl⟩
        rw [← g61] at A61 D61 st61
        refine WP.st st61 ?_
        clear st61
        have g_b61 : n0 ≤ b61 := Nat.le_trans Z0 (Nat.le_of_eq g61.symm)
        replace Z0 := Nat.le_trans Z0 E61.1
        have E_b61 := A61
        have F_b61_what : Fld Z h61 b61 "com/example/hasten/hasten/Message" "what" "I" (.int (0 : Int32)) := D61 (Or.inl (w_26 hw)) (ty := .int) (by decide)
        have F_b61_arg1 : Fld Z h61 b61 "com/example/hasten/hasten/Message" "arg1" "I" (.int (0 : Int32)) := D61 (Or.inl (w_28 hw)) (ty := .int) (by decide)
        have F_b61_arg2 : Fld Z h61 b61 "com/example/hasten/hasten/Message" "arg2" "I" (.int (0 : Int32)) := D61 (Or.inl (w_30 hw)) (ty := .int) (by decide)
        have F_b61_obj : Fld Z h61 b61 "com/example/hasten/hasten/Message" "obj" "Ljava/lang/Object;" .null := D61 (Or.inl (w_32 hw)) (ty := (.object "java/lang/Object")) (by decide)
        have F_b61_asynchronous : Fld Z h61 b61 "com/example/hasten/hasten/Envelope" "asynchronous" "Z" (.int (0 : Int32)) := D61 (Or.inl (w_40 hw)) (ty := .boolean) (by decide)
        have F_b61_when : Fld Z h61 b61 "com/example/hasten/hasten/Envelope" "when" "J" (.long (0 : Int64)) := D61 (Or.inl (w_43 hw)) (ty := .long) (by decide)
        have F_b61_callback : Fld Z h61 b61 "com/example/hasten/hasten/Envelope" "callback" "Ljava/lang/Runnable;" .null := D61 (Or.inl (w_72 hw)) (ty := (.object "java/lang/Runnable")) (by decide)
        clear D61 A61
        show WP p.tables e below _ T61 (mkF m 51 #[.val (.int p1), .val (.int p2), .val (.int p3), .val (.int p4), .val (.long q5), .second, .val (.int p6), .val (.int (0 : Int32)), .val (.int sa), .val (.int da), .val (.ref r_59), .unset, .unset, .unset, .unset, .unset, .unset, .unset, .unset, .unset, .unset, .unset] [(.ref b61)])
        refine WP.st (T' := T61) (f' := (mkF m 52 #[.val (.int p1), .val (.int p2), .val (.int p3), .val (.int p4), .val (.long q5), .second, .val (.int p6), .val (.int (0 : Int32)), .val (.int sa), .val (.int da), .val (.ref r_59), .unset, .unset, .unset, .unset, .unset, .unset, .unset, .unset, .unset, .unset, .unset] [(.ref b61), (.ref b61)])) (fun t k => ?_) ?_
        · refine XS.dup X61.here hx rfl (hb hby at_51) rfl rfl ?_
          exact k
        obtain ⟨_, _, ⟨T62, L62, k62, n62⟩, -, X62, ⟨Lc62, hQ62, l62, y62, z62⟩, st62⟩ := X61.specialBack hx (y := (⟨"com/example/hasten/hasten/Message", "<init>", "()V"⟩ : MethodName)) rfl hown (mvT hZ (w_10 hw)) (mvT hZ (w_11 hw)) (mvT hZ (w_12 hw)) (by decide) (backOf (W := 1) (rm2 l Z a0 hw [] b61 h61 n0 Z0 ) hZ (w_12 hw) (w_9 hw) (by decide) (by decide)) (g := (mkF m 52 #[.val (.int p1), .val (.int p2), .val (.int p3), .val (.int p4), .val (.long q5), .second, .val (.int p6), .val (.int (0 : Int32)), .val (.int sa), .val (.int da), .val (.ref r_59), .unset, .unset, .unset, .unset, .unset, .unset, .unset, .unset, .unset, .unset, .unset] [(.ref b61), (.ref b61)])) rfl (by rw [hml]; rfl) (Steps.refl _) (a := b61) (argsL := []) (rest := [(.ref b61)]) (lenOf pd_0 rfl) rfl (by show 2 * 0 + _ ≤ _; exact Nat.le_of_eq rfl) (hb hby at_52) (fun _ _ => ⟨rfl, e61, (by decide : 2 + 0 ≤ _), (by decide : 15 + 0 ≤ _)⟩)
        dsimp only [Pt.U, Pt.locs, Pt.cells, Pt.slots] at X62 l62 y62 z62 st62 hQ62
        subst l62 y62 z62
        obtain ⟨rfl, Nq62, Kq62⟩ := hQ62
        replace NF := Fr.app NF Nq62
        clear Nq62
        refine WP.tr st62 ?_
        clear st62
        obtain ⟨h62, e62⟩ : ∃ h, T62.heap = h := ⟨_, rfl⟩
        rw [e62] at Kq62
        replace E_b61 := E_b61.keep Kq62
        replace F_b61_what := F_b61_what.keep Kq62 (by exact nin0)
        replace F_b61_arg1 := F_b61_arg1.keep Kq62 (by exact nin0)
        replace F_b61_arg2 := F_b61_arg2.keep Kq62 (by exact nin0)
        replace F_b61_obj := F_b61_obj.keep Kq62 (by exact nin0)
        replace F_b61_asynchronous := F_b61_asynchronous.keep Kq62 (by exact nin0)
        replace F_b61_when := F_b61_when.keep Kq62 (by exact nin0)
        replace F_b61_callback := F_b61_callback.keep Kq62 (by exact nin0)
        replace Z0 := Nat.le_trans Z0 Kq62.1
        clear Kq62
        have hXN : ∃ LL, Stand p l e room_1 s m #[(.int p1), (.int p2), (.int p3), (.int p4), (.long q5), (.int p6)] below meth c T62 LL 2 15 ∧ Fr n0 LL := ⟨_, X62, NF⟩
        clear X62 NF
        obtain ⟨LL63, X62, NF⟩ := hXN
        show WP p.tables e below _ T62 (mkF m 55 #[.val (.int p1), .val (.int p2), .val (.int p3), .val (.int p4), .val (.long q5), .second, .val (.int p6), .val (.int (0 : Int32)), .val (.int sa), .val (.int da), .val (.ref r_59), .unset, .unset, .unset, .unset, .unset, .unset, .unset, .unset, .unset, .unset, .unset] [(.ref b61)])
        refine WP.st (T' := T62) (f' := (mkF m 67 #[.val (.int p1), .val (.int p2), .val (.int p3), .val (.int p4), .val (.long q5), .second, .val (.int p6), .val (.int (0 : Int32)), .val (.int sa), .val (.int da), .val (.ref r_59), .val (.ref b61), .unset, .unset, .unset, .unset, .unset, .unset, .unset, .unset, .unset, .unset] [(.ref b61), (.ref r_59), (.int (((p6.toUInt32 >>> ((3 : Int32) &&& 31).toUInt32).toInt32) &&& (3 : Int32)))])) (fun t k => ?_) ?_
        · refine XS.astore X62.here hx rfl (hb hby at_55) rfl rfl (l' := #[.val (.int p1), .val (.int p2), .val (.int p3), .val (.int p4), .val (.long q5), .second, .val (.int p6), .val (.int (0 : Int32)), .val (.int sa), .val (.int da), .val (.ref r_59), .val (.ref b61), .unset, .unset, .unset, .unset, .unset, .unset, .unset, .unset, .unset, .unset]) rfl ?_
          show Steps p.tables e below (T62.setTop (mkF m 57 #[.val (.int p1), .val (.int p2), .val (.int p3), .val (.int p4), .val (.long q5), .second, .val (.int p6), .val (.int (0 : Int32)), .val (.int sa), .val (.int da), .val (.ref r_59), .val (.ref b61), .unset, .unset, .unset, .unset, .unset, .unset, .unset, .unset, .unset, .unset] [])) t
          refine XS.iload X62.here hx rfl (hb hby at_57) rfl ?_
          show Steps p.tables e below (T62.setTop (mkF m 59 #[.val (.int p1), .val (.int p2), .val (.int p3), .val (.int p4), .val (.long q5), .second, .val (.int p6), .val (.int (0 : Int32)), .val (.int sa), .val (.int da), .val (.ref r_59), .val (.ref b61), .unset, .unset, .unset, .unset, .unset, .unset, .unset, .unset, .unset, .unset] [(.int p6)])) t
          refine XS.iconst X62.here hx rfl (hb hby at_59) ?_
          show Steps p.tables e below (T62.setTop (mkF m 60 #[.val (.int p1), .val (.int p2), .val (.int p3), .val (.int p4), .val (.long q5), .second, .val (.int p6), .val (.int (0 : Int32)), .val (.int sa), .val (.int da), .val (.ref r_59), .val (.ref b61), .unset, .unset, .unset, .unset, .unset, .unset, .unset, .unset, .unset, .unset] [(.int (3 : Int32)), (.int p6)])) t
          refine XS.iushr X62.here hx rfl (hb hby at_60) rfl ?_
          show Steps p.tables e below (T62.setTop (mkF m 61 #[.val (.int p1), .val (.int p2), .val (.int p3), .val (.int p4), .val (.long q5), .second, .val (.int p6), .val (.int (0 : Int32)), .val (.int sa), .val (.int da), .val (.ref r_59), .val (.ref b61), .unset, .unset, .unset, .unset, .unset, .unset, .unset, .unset, .unset, .unset] [(.int ((p6.toUInt32 >>> ((3 : Int32) &&& 31).toUInt32).toInt32))])) t
          refine XS.iconst X62.here hx rfl (hb hby at_61) ?_
          show Steps p.tables e below (T62.setTop (mkF m 62 #[.val (.int p1), .val (.int p2), .val (.int p3), .val (.int p4), .val (.long q5), .second, .val (.int p6), .val (.int (0 : Int32)), .val (.int sa), .val (.int da), .val (.ref r_59), .val (.ref b61), .unset, .unset, .unset, .unset, .unset, .unset, .unset, .unset, .unset, .unset] [(.int (3 : Int32)), (.int ((p6.toUInt32 >>> ((3 : Int32) &&& 31).toUInt32).toInt32))])) t
          refine XS.iand X62.here hx rfl (hb hby at_62) rfl ?_
          show Steps p.tables e below (T62.setTop (mkF m 63 #[.val (.int p1), .val (.int p2), .val (.int p3), .val (.int p4), .val (.long q5), .second, .val (.int p6), .val (.int (0 : Int32)), .val (.int sa), .val (.int da), .val (.ref r_59), .val (.ref b61), .unset, .unset, .unset, .unset, .unset, .unset, .unset, .unset, .unset, .unset] [(.int (((p6.toUInt32 >>> ((3 : Int32) &&& 31).toUInt32).toInt32) &&& (3 : Int32)))])) t
          refine XS.aload X62.here hx rfl (hb hby at_63) rfl rfl ?_
          show Steps p.tables e below (T62.setTop (mkF m 65 #[.val (.int p1), .val (.int p2), .val (.int p3), .val (.int p4), .val (.long q5), .second, .val (.int p6), .val (.int (0 : Int32)), .val (.int sa), .val (.int da), .val (.ref r_59), .val (.ref b61), .unset, .unset, .unset, .unset, .unset, .unset, .unset, .unset, .unset, .unset] [(.ref r_59), (.int (((p6.toUInt32 >>> ((3 : Int32) &&& 31).toUInt32).toInt32) &&& (3 : Int32)))])) t
          refine XS.aload X62.here hx rfl (hb hby at_65) rfl rfl ?_
          exact k
        obtain ⟨_, _, ⟨T64, L64, k64, n64⟩, -, X64, ⟨Lc64, hQ64, l64, y64, z64⟩, st64⟩ := Jvm.LawKit.callS X62 hx (y := (⟨"com/example/hasten/hasten/MessageCopyFromPinLaw", "pick", "(ILjava/lang/Object;Ljava/lang/Object;)Ljava/lang/Object;"⟩ : MethodName)) hown (mvT hZ (w_21 hw)) (mvT hZ (w_22 hw)) (mvT hZ (w_23 hw)) (mvT hZ (w_24 hw)) (by decide) (backOf (W := 0) (rm5 l Z a0 hw [] (((p6.toUInt32 >>> ((3 : Int32) &&& 31).toUInt32).toInt32) &&& (3 : Int32)) r_59 b61 h62 n0 Z0 ) hZ (w_24 hw) (w_23 hw) (by decide) (by decide)) (g := (mkF m 67 #[.val (.int p1), .val (.int p2), .val (.int p3), .val (.int p4), .val (.long q5), .second, .val (.int p6), .val (.int (0 : Int32)), .val (.int sa), .val (.int da), .val (.ref r_59), .val (.ref b61), .unset, .unset, .unset, .unset, .unset, .unset, .unset, .unset, .unset, .unset] [(.ref b61), (.ref r_59), (.int (((p6.toUInt32 >>> ((3 : Int32) &&& 31).toUInt32).toInt32) &&& (3 : Int32)))])) rfl (by rw [hml]; rfl) (argsL := [(.int (((p6.toUInt32 >>> ((3 : Int32) &&& 31).toUInt32).toInt32) &&& (3 : Int32))), (.ref r_59), (.ref b61)]) (rest := []) (lenOf pd_3 rfl) rfl (by show 2 * 0 + _ ≤ _; exact Nat.le_of_eq rfl) (hb hby at_67) (fun _ _ => ⟨rfl, e62, (by decide : 2 + 0 ≤ _), (by decide : 15 + 0 ≤ _)⟩)
        dsimp only [Pt.U, Pt.locs, Pt.cells, Pt.slots] at X64 l64 y64 z64 st64 hQ64
        subst l64 y64 z64
        obtain ⟨rfl, Nq64, Kq64⟩ := hQ64
        replace NF := Fr.app NF Nq64
        clear Nq64
        refine WP.st st64 ?_
        clear st64
        replace Kq64 := Kq64.trans (rfl : h62 = h62)
        have hXN : ∃ LL, Stand p l e room_1 s m #[(.int p1), (.int p2), (.int p3), (.int p4), (.long q5), (.int p6)] below meth c T64 LL 2 15 ∧ Fr n0 LL := ⟨_, X64, NF⟩
        clear X64 NF
        obtain ⟨LL65, X64, NF⟩ := hXN
        show WP p.tables e below _ T64 (mkF m 70 #[.val (.int p1), .val (.int p2), .val (.int p3), .val (.int p4), .val (.long q5), .second, .val (.int p6), .val (.int (0 : Int32)), .val (.int sa), .val (.int da), .val (.ref r_59), .val (.ref b61), .unset, .unset, .unset, .unset, .unset, .unset, .unset, .unset, .unset, .unset] [(own_pick (((p6.toUInt32 >>> ((3 : Int32) &&& 31).toUInt32).toInt32) &&& (3 : Int32)) (.ref r_59) (.ref b61))])
        obtain ⟨so, e_so, hr_so⟩ : ∃ z : Value, (own_pick (((p6.toUInt32 >>> ((3 : Int32) &&& 31).toUInt32).toInt32) &&& (3 : Int32)) (.ref r_59) (.ref b61)) = z ∧ z.isRef = true := ⟨_, rfl, by unfold own_pick; (repeat' split) <;> rfl⟩
        rw [e_so]
        show WP p.tables e below _ T64 (mkF m 70 #[.val (.int p1), .val (.int p2), .val (.int p3), .val (.int p4), .val (.long q5), .second, .val (.int p6), .val (.int (0 : Int32)), .val (.int sa), .val (.int da), .val (.ref r_59), .val (.ref b61), .unset, .unset, .unset, .unset, .unset, .unset, .unset, .unset, .unset, .unset] [so])
        refine WP.st (T' := T64) (f' := (mkF m 82 #[.val (.int p1), .val (.int p2), .val (.int p3), .val (.int p4), .val (.long q5), .second, .val (.int p6), .val (.int (0 : Int32)), .val (.int sa), .val (.int da), .val (.ref r_59), .val (.ref b61), .val so, .unset, .unset, .unset, .unset, .unset, .unset, .unset, .unset, .unset] [(.ref b61), (.ref r_59), (.int (((p6.toUInt32 >>> ((5 : Int32) &&& 31).toUInt32).toInt32) &&& (3 : Int32)))])) (fun t k => ?_) ?_
        · refine XS.astore X64.here hx rfl (hb hby at_70) rfl hr_so (l' := #[.val (.int p1), .val (.int p2), .val (.int p3), .val (.int p4), .val (.long q5), .second, .val (.int p6), .val (.int (0 : Int32)), .val (.int sa), .val (.int da), .val (.ref r_59), .val (.ref b61), .val so, .unset, .unset, .unset, .unset, .unset, .unset, .unset, .unset, .unset]) (by rcases ref_cases hr_so with h | ⟨z, h⟩ <;> rw [h] <;> rfl) ?_
          show Steps p.tables e below (T64.setTop (mkF m 72 #[.val (.int p1), .val (.int p2), .val (.int p3), .val (.int p4), .val (.long q5), .second, .val (.int p6), .val (.int (0 : Int32)), .val (.int sa), .val (.int da), .val (.ref r_59), .val (.ref b61), .val so, .unset, .unset, .unset, .unset, .unset, .unset, .unset, .unset, .unset] [])) t
          refine XS.iload X64.here hx rfl (hb hby at_72) rfl ?_
          show Steps p.tables e below (T64.setTop (mkF m 74 #[.val (.int p1), .val (.int p2), .val (.int p3), .val (.int p4), .val (.long q5), .second, .val (.int p6), .val (.int (0 : Int32)), .val (.int sa), .val (.int da), .val (.ref r_59), .val (.ref b61), .val so, .unset, .unset, .unset, .unset, .unset, .unset, .unset, .unset, .unset] [(.int p6)])) t
          refine XS.iconst X64.here hx rfl (hb hby at_74) ?_
          show Steps p.tables e below (T64.setTop (mkF m 75 #[.val (.int p1), .val (.int p2), .val (.int p3), .val (.int p4), .val (.long q5), .second, .val (.int p6), .val (.int (0 : Int32)), .val (.int sa), .val (.int da), .val (.ref r_59), .val (.ref b61), .val so, .unset, .unset, .unset, .unset, .unset, .unset, .unset, .unset, .unset] [(.int (5 : Int32)), (.int p6)])) t
          refine XS.iushr X64.here hx rfl (hb hby at_75) rfl ?_
          show Steps p.tables e below (T64.setTop (mkF m 76 #[.val (.int p1), .val (.int p2), .val (.int p3), .val (.int p4), .val (.long q5), .second, .val (.int p6), .val (.int (0 : Int32)), .val (.int sa), .val (.int da), .val (.ref r_59), .val (.ref b61), .val so, .unset, .unset, .unset, .unset, .unset, .unset, .unset, .unset, .unset] [(.int ((p6.toUInt32 >>> ((5 : Int32) &&& 31).toUInt32).toInt32))])) t
          refine XS.iconst X64.here hx rfl (hb hby at_76) ?_
          show Steps p.tables e below (T64.setTop (mkF m 77 #[.val (.int p1), .val (.int p2), .val (.int p3), .val (.int p4), .val (.long q5), .second, .val (.int p6), .val (.int (0 : Int32)), .val (.int sa), .val (.int da), .val (.ref r_59), .val (.ref b61), .val so, .unset, .unset, .unset, .unset, .unset, .unset, .unset, .unset, .unset] [(.int (3 : Int32)), (.int ((p6.toUInt32 >>> ((5 : Int32) &&& 31).toUInt32).toInt32))])) t
          refine XS.iand X64.here hx rfl (hb hby at_77) rfl ?_
          show Steps p.tables e below (T64.setTop (mkF m 78 #[.val (.int p1), .val (.int p2), .val (.int p3), .val (.int p4), .val (.long q5), .second, .val (.int p6), .val (.int (0 : Int32)), .val (.int sa), .val (.int da), .val (.ref r_59), .val (.ref b61), .val so, .unset, .unset, .unset, .unset, .unset, .unset, .unset, .unset, .unset] [(.int (((p6.toUInt32 >>> ((5 : Int32) &&& 31).toUInt32).toInt32) &&& (3 : Int32)))])) t
          refine XS.aload X64.here hx rfl (hb hby at_78) rfl rfl ?_
          show Steps p.tables e below (T64.setTop (mkF m 80 #[.val (.int p1), .val (.int p2), .val (.int p3), .val (.int p4), .val (.long q5), .second, .val (.int p6), .val (.int (0 : Int32)), .val (.int sa), .val (.int da), .val (.ref r_59), .val (.ref b61), .val so, .unset, .unset, .unset, .unset, .unset, .unset, .unset, .unset, .unset] [(.ref r_59), (.int (((p6.toUInt32 >>> ((5 : Int32) &&& 31).toUInt32).toInt32) &&& (3 : Int32)))])) t
          refine XS.aload X64.here hx rfl (hb hby at_80) rfl rfl ?_
          exact k
        obtain ⟨_, _, ⟨T66, L66, k66, n66⟩, -, X66, ⟨Lc66, hQ66, l66, y66, z66⟩, st66⟩ := Jvm.LawKit.callS X64 hx (y := (⟨"com/example/hasten/hasten/MessageCopyFromPinLaw", "pick", "(ILjava/lang/Object;Ljava/lang/Object;)Ljava/lang/Object;"⟩ : MethodName)) hown (mvT hZ (w_21 hw)) (mvT hZ (w_22 hw)) (mvT hZ (w_23 hw)) (mvT hZ (w_24 hw)) (by decide) (backOf (W := 0) (rm5 l Z a0 hw [] (((p6.toUInt32 >>> ((5 : Int32) &&& 31).toUInt32).toInt32) &&& (3 : Int32)) r_59 b61 h62 n0 Z0 ) hZ (w_24 hw) (w_23 hw) (by decide) (by decide)) (g := (mkF m 82 #[.val (.int p1), .val (.int p2), .val (.int p3), .val (.int p4), .val (.long q5), .second, .val (.int p6), .val (.int (0 : Int32)), .val (.int sa), .val (.int da), .val (.ref r_59), .val (.ref b61), .val so, .unset, .unset, .unset, .unset, .unset, .unset, .unset, .unset, .unset] [(.ref b61), (.ref r_59), (.int (((p6.toUInt32 >>> ((5 : Int32) &&& 31).toUInt32).toInt32) &&& (3 : Int32)))])) rfl (by rw [hml]; rfl) (argsL := [(.int (((p6.toUInt32 >>> ((5 : Int32) &&& 31).toUInt32).toInt32) &&& (3 : Int32))), (.ref r_59), (.ref b61)]) (rest := []) (lenOf pd_3 rfl) rfl (by show 2 * 0 + _ ≤ _; exact Nat.le_of_eq rfl) (hb hby at_82) (fun _ _ => ⟨rfl, Kq64, (by decide : 2 + 0 ≤ _), (by decide : 15 + 0 ≤ _)⟩)
        dsimp only [Pt.U, Pt.locs, Pt.cells, Pt.slots] at X66 l66 y66 z66 st66 hQ66
        subst l66 y66 z66
        obtain ⟨rfl, Nq66, Kq66⟩ := hQ66
        replace NF := Fr.app NF Nq66
        clear Nq66
        refine WP.st st66 ?_
        clear st66
        replace Kq66 := Kq66.trans (rfl : h62 = h62)
        have hXN : ∃ LL, Stand p l e room_1 s m #[(.int p1), (.int p2), (.int p3), (.int p4), (.long q5), (.int p6)] below meth c T66 LL 2 15 ∧ Fr n0 LL := ⟨_, X66, NF⟩
        clear X66 NF
        obtain ⟨LL67, X66, NF⟩ := hXN
        show WP p.tables e below _ T66 (mkF m 85 #[.val (.int p1), .val (.int p2), .val (.int p3), .val (.int p4), .val (.long q5), .second, .val (.int p6), .val (.int (0 : Int32)), .val (.int sa), .val (.int da), .val (.ref r_59), .val (.ref b61), .val so, .unset, .unset, .unset, .unset, .unset, .unset, .unset, .unset, .unset] [(own_pick (((p6.toUInt32 >>> ((5 : Int32) &&& 31).toUInt32).toInt32) &&& (3 : Int32)) (.ref r_59) (.ref b61))])
        obtain ⟨dob, e_dob, hr_dob⟩ : ∃ z : Value, (own_pick (((p6.toUInt32 >>> ((5 : Int32) &&& 31).toUInt32).toInt32) &&& (3 : Int32)) (.ref r_59) (.ref b61)) = z ∧ z.isRef = true := ⟨_, rfl, by unfold own_pick; (repeat' split) <;> rfl⟩
        rw [e_dob]
        show WP p.tables e below _ T66 (mkF m 85 #[.val (.int p1), .val (.int p2), .val (.int p3), .val (.int p4), .val (.long q5), .second, .val (.int p6), .val (.int (0 : Int32)), .val (.int sa), .val (.int da), .val (.ref r_59), .val (.ref b61), .val so, .unset, .unset, .unset, .unset, .unset, .unset, .unset, .unset, .unset] [dob])
        refine WP.st (T' := T66) (f' := (mkF m 87 #[.val (.int p1), .val (.int p2), .val (.int p3), .val (.int p4), .val (.long q5), .second, .val (.int p6), .val (.int (0 : Int32)), .val (.int sa), .val (.int da), .val (.ref r_59), .val (.ref b61), .val so, .val dob, .unset, .unset, .unset, .unset, .unset, .unset, .unset, .unset] [])) (fun t k => ?_) ?_
        · refine XS.astore X66.here hx rfl (hb hby at_85) rfl hr_dob (l' := #[.val (.int p1), .val (.int p2), .val (.int p3), .val (.int p4), .val (.long q5), .second, .val (.int p6), .val (.int (0 : Int32)), .val (.int sa), .val (.int da), .val (.ref r_59), .val (.ref b61), .val so, .val dob, .unset, .unset, .unset, .unset, .unset, .unset, .unset, .unset]) (by rcases ref_cases hr_dob with h | ⟨z, h⟩ <;> rw [h] <;> rfl) ?_
          exact k
        obtain ⟨T68, h68, X68, e68, E68, A68, D68, -, st68⟩ := newO X66 hx hZ hown (w_7 hw) (w_8 hw) (w_9 hw) Kq66 (g := (mkF m 87 #[.val (.int p1), .val (.int p2), .val (.int p3), .val (.int p4), .val (.long q5), .second, .val (.int p6), .val (.int (0 : Int32)), .val (.int sa), .val (.int da), .val (.ref r_59), .val (.ref b61), .val so, .val dob, .unset, .unset, .unset, .unset, .unset, .unset, .unset, .unset] [])) rfl (hb hby at_87) (by decide) (by decide)
        obtain ⟨b68, g68⟩ : ∃ z, z = h62.size := ⟨_, rfl⟩
        rw [← g68] at A68 D68 st68
        refine WP.st st68 ?_
        clear st68
        have ne_b61_b68 : b61 ≠ b68 := Nat.ne_of_lt (Nat.lt_of_lt_of_le E_b61.lt (Nat.le_of_eq g68.symm))
        have g_b68 : n0 ≤ b68 := Nat.le_trans Z0 (Nat.le_of_eq g68.symm)
        replace E_b61 := E_b61.ext E68
        replace F_b61_what := F_b61_what.ext E68
        replace F_b61_arg1 := F_b61_arg1.ext E68
        replace F_b61_arg2 := F_b61_arg2.ext E68
        replace F_b61_obj := F_b61_obj.ext E68
        replace F_b61_asynchronous := F_b61_asynchronous.ext E68
        replace F_b61_when := F_b61_when.ext E68
        replace F_b61_callback := F_b61_callback.ext E68
        replace Z0 := Nat.le_trans Z0 E68.1
        have E_b68 := A68
        have F_b68_what : Fld Z h68 b68 "com/example/hasten/hasten/Message" "what" "I" (.int (0 : Int32)) := D68 (Or.inl (w_26 hw)) (ty := .int) (by decide)
        have F_b68_arg1 : Fld Z h68 b68 "com/example/hasten/hasten/Message" "arg1" "I" (.int (0 : Int32)) := D68 (Or.inl (w_28 hw)) (ty := .int) (by decide)
        have F_b68_arg2 : Fld Z h68 b68 "com/example/hasten/hasten/Message" "arg2" "I" (.int (0 : Int32)) := D68 (Or.inl (w_30 hw)) (ty := .int) (by decide)
        have F_b68_obj : Fld Z h68 b68 "com/example/hasten/hasten/Message" "obj" "Ljava/lang/Object;" .null := D68 (Or.inl (w_32 hw)) (ty := (.object "java/lang/Object")) (by decide)
        have F_b68_asynchronous : Fld Z h68 b68 "com/example/hasten/hasten/Envelope" "asynchronous" "Z" (.int (0 : Int32)) := D68 (Or.inl (w_40 hw)) (ty := .boolean) (by decide)
        have F_b68_when : Fld Z h68 b68 "com/example/hasten/hasten/Envelope" "when" "J" (.long (0 : Int64)) := D68 (Or.inl (w_43 hw)) (ty := .long) (by decide)
        have F_b68_callback : Fld Z h68 b68 "com/example/hasten/hasten/Envelope" "callback" "Ljava/lang/Runnable;" .null := D68 (Or.inl (w_72 hw)) (ty := (.object "java/lang/Runnable")) (by decide)
        clear D68 A68
        show WP p.tables e below _ T68 (mkF m 90 #[.val (.int p1), .val (.int p2), .val (.int p3), .val (.int p4), .val (.long q5), .second, .val (.int p6), .val (.int (0 : Int32)), .val (.int sa), .val (.int da), .val (.ref r_59), .val (.ref b61), .val so, .val dob, .unset, .unset, .unset, .unset, .unset, .unset, .unset, .unset] [(.ref b68)])
        refine WP.st (T' := T68) (f' := (mkF m 91 #[.val (.int p1), .val (.int p2), .val (.int p3), .val (.int p4), .val (.long q5), .second, .val (.int p6), .val (.int (0 : Int32)), .val (.int sa), .val (.int da), .val (.ref r_59), .val (.ref b61), .val so, .val dob, .unset, .unset, .unset, .unset, .unset, .unset, .unset, .unset] [(.ref b68), (.ref b68)])) (fun t k => ?_) ?_
        · refine XS.dup X68.here hx rfl (hb hby at_90) rfl rfl ?_
          exact k
        obtain ⟨_, _, ⟨T69, L69, k69, n69⟩, -, X69, ⟨Lc69, hQ69, l69, y69, z69⟩, st69⟩ := X68.specialBack hx (y := (⟨"com/example/hasten/hasten/Message", "<init>", "()V"⟩ : MethodName)) rfl hown (mvT hZ (w_10 hw)) (mvT hZ (w_11 hw)) (mvT hZ (w_12 hw)) (by decide) (backOf (W := 1) (rm2 l Z a0 hw [] b68 h68 n0 Z0 ) hZ (w_12 hw) (w_9 hw) (by decide) (by decide)) (g := (mkF m 91 #[.val (.int p1), .val (.int p2), .val (.int p3), .val (.int p4), .val (.long q5), .second, .val (.int p6), .val (.int (0 : Int32)), .val (.int sa), .val (.int da), .val (.ref r_59), .val (.ref b61), .val so, .val dob, .unset, .unset, .unset, .unset, .unset, .unset, .unset, .unset] [(.ref b68), (.ref b68)])) rfl (by rw [hml]; rfl) (Steps.refl _) (a := b68) (argsL := []) (rest := [(.ref b68)]) (lenOf pd_0 rfl) rfl (by show 2 * 0 + _ ≤ _; exact Nat.le_of_eq rfl) (hb hby at_91) (fun _ _ => ⟨rfl, e68, (by decide : 3 + 0 ≤ _), (by decide : 29 + 0 ≤ _)⟩)
        dsimp only [Pt.U, Pt.locs, Pt.cells, Pt.slots] at X69 l69 y69 z69 st69 hQ69
        subst l69 y69 z69
        obtain ⟨rfl, Nq69, Kq69⟩ := hQ69
        replace NF := Fr.app NF Nq69
        clear Nq69
        refine WP.tr st69 ?_
        clear st69
        obtain ⟨h69, e69⟩ : ∃ h, T69.heap = h := ⟨_, rfl⟩
        rw [e69] at Kq69
        replace E_b61 := E_b61.keep Kq69
        replace F_b61_what := F_b61_what.keep Kq69 (by exact nin0)
        replace F_b61_arg1 := F_b61_arg1.keep Kq69 (by exact nin0)
        replace F_b61_arg2 := F_b61_arg2.keep Kq69 (by exact nin0)
        replace F_b61_obj := F_b61_obj.keep Kq69 (by exact nin0)
        replace F_b61_asynchronous := F_b61_asynchronous.keep Kq69 (by exact nin0)
        replace F_b61_when := F_b61_when.keep Kq69 (by exact nin0)
        replace F_b61_callback := F_b61_callback.keep Kq69 (by exact nin0)
        replace E_b68 := E_b68.keep Kq69
        replace F_b68_what := F_b68_what.keep Kq69 (by exact nin0)
        replace F_b68_arg1 := F_b68_arg1.keep Kq69 (by exact nin0)
        replace F_b68_arg2 := F_b68_arg2.keep Kq69 (by exact nin0)
        replace F_b68_obj := F_b68_obj.keep Kq69 (by exact nin0)
        replace F_b68_asynchronous := F_b68_asynchronous.keep Kq69 (by exact nin0)
        replace F_b68_when := F_b68_when.keep Kq69 (by exact nin0)
        replace F_b68_callback := F_b68_callback.keep Kq69 (by exact nin0)
        replace Z0 := Nat.le_trans Z0 Kq69.1
        clear Kq69
        have hXN : ∃ LL, Stand p l e room_1 s m #[(.int p1), (.int p2), (.int p3), (.int p4), (.long q5), (.int p6)] below meth c T69 LL 3 29 ∧ Fr n0 LL := ⟨_, X69, NF⟩
        clear X69 NF
        obtain ⟨LL70, X69, NF⟩ := hXN
        show WP p.tables e below _ T69 (mkF m 94 #[.val (.int p1), .val (.int p2), .val (.int p3), .val (.int p4), .val (.long q5), .second, .val (.int p6), .val (.int (0 : Int32)), .val (.int sa), .val (.int da), .val (.ref r_59), .val (.ref b61), .val so, .val dob, .unset, .unset, .unset, .unset, .unset, .unset, .unset, .unset] [(.ref b68)])
        refine WP.st (T' := T69) (f' := (mkF m 106 #[.val (.int p1), .val (.int p2), .val (.int p3), .val (.int p4), .val (.long q5), .second, .val (.int p6), .val (.int (0 : Int32)), .val (.int sa), .val (.int da), .val (.ref r_59), .val (.ref b61), .val so, .val dob, .val (.ref b68), .unset, .unset, .unset, .unset, .unset, .unset, .unset] [])) (fun t k => ?_) ?_
        · refine XS.astore X69.here hx rfl (hb hby at_94) rfl rfl (l' := #[.val (.int p1), .val (.int p2), .val (.int p3), .val (.int p4), .val (.long q5), .second, .val (.int p6), .val (.int (0 : Int32)), .val (.int sa), .val (.int da), .val (.ref r_59), .val (.ref b61), .val so, .val dob, .val (.ref b68), .unset, .unset, .unset, .unset, .unset, .unset, .unset]) rfl ?_
          show Steps p.tables e below (T69.setTop (mkF m 96 #[.val (.int p1), .val (.int p2), .val (.int p3), .val (.int p4), .val (.long q5), .second, .val (.int p6), .val (.int (0 : Int32)), .val (.int sa), .val (.int da), .val (.ref r_59), .val (.ref b61), .val so, .val dob, .val (.ref b68), .unset, .unset, .unset, .unset, .unset, .unset, .unset] [])) t
          refine XS.iload X69.here hx rfl (hb hby at_96) rfl ?_
          show Steps p.tables e below (T69.setTop (mkF m 98 #[.val (.int p1), .val (.int p2), .val (.int p3), .val (.int p4), .val (.long q5), .second, .val (.int p6), .val (.int (0 : Int32)), .val (.int sa), .val (.int da), .val (.ref r_59), .val (.ref b61), .val so, .val dob, .val (.ref b68), .unset, .unset, .unset, .unset, .unset, .unset, .unset] [(.int (0 : Int32))])) t
          refine XS.ifYes X69.here hx rfl (pc0 := 98) (pc' := 106) rfl (hb hby at_98) rfl ((if0 _ _).trans (teq (by decide : (0 : Int32) = (0 : Int32))).1) (by decide) (by decide) ?_
          exact k
        obtain ⟨T71, h71, X71, e71, E71, A71, D71, -, st71⟩ := newO X69 hx hZ hown (w_7 hw) (w_8 hw) (w_9 hw) e69 (g := (mkF m 106 #[.val (.int p1), .val (.int p2), .val (.int p3), .val (.int p4), .val (.long q5), .second, .val (.int p6), .val (.int (0 : Int32)), .val (.int sa), .val (.int da), .val (.ref r_59), .val (.ref b61), .val so, .val dob, .val (.ref b68), .unset, .unset, .unset, .unset, .unset, .unset, .unset] [])) rfl (hb hby at_106) (by decide) (by decide)
        obtain ⟨b71, g71⟩ : ∃ z, z = h69.size := ⟨_, rfl⟩
        rw [← g71] at A71 D71 st71
        refine WP.st st71 ?_
        clear st71
        have ne_b61_b71 : b61 ≠ b71 := Nat.ne_of_lt (Nat.lt_of_lt_of_le E_b61.lt (Nat.le_of_eq g71.symm))
        have ne_b68_b71 : b68 ≠ b71 := Nat.ne_of_lt (Nat.lt_of_lt_of_le E_b68.lt (Nat.le_of_eq g71.symm))
        have g_b71 : n0 ≤ b71 := Nat.le_trans Z0 (Nat.le_of_eq g71.symm)
        replace E_b61 := E_b61.ext E71
        replace F_b61_what := F_b61_what.ext E71
        replace F_b61_arg1 := F_b61_arg1.ext E71
        replace F_b61_arg2 := F_b61_arg2.ext E71
        replace F_b61_obj := F_b61_obj.ext E71
        replace F_b61_asynchronous := F_b61_asynchronous.ext E71
        replace F_b61_when := F_b61_when.ext E71
        replace F_b61_callback := F_b61_callback.ext E71
        replace E_b68 := E_b68.ext E71
        replace F_b68_what := F_b68_what.ext E71
        replace F_b68_arg1 := F_b68_arg1.ext E71
        replace F_b68_arg2 := F_b68_arg2.ext E71
        replace F_b68_obj := F_b68_obj.ext E71
        replace F_b68_asynchronous := F_b68_asynchronous.ext E71
        replace F_b68_when := F_b68_when.ext E71
        replace F_b68_callback := F_b68_callback.ext E71
        replace Z0 := Nat.le_trans Z0 E71.1
        have E_b71 := A71
        have F_b71_what : Fld Z h71 b71 "com/example/hasten/hasten/Message" "what" "I" (.int (0 : Int32)) := D71 (Or.inl (w_26 hw)) (ty := .int) (by decide)
        have F_b71_arg1 : Fld Z h71 b71 "com/example/hasten/hasten/Message" "arg1" "I" (.int (0 : Int32)) := D71 (Or.inl (w_28 hw)) (ty := .int) (by decide)
        have F_b71_arg2 : Fld Z h71 b71 "com/example/hasten/hasten/Message" "arg2" "I" (.int (0 : Int32)) := D71 (Or.inl (w_30 hw)) (ty := .int) (by decide)
        have F_b71_obj : Fld Z h71 b71 "com/example/hasten/hasten/Message" "obj" "Ljava/lang/Object;" .null := D71 (Or.inl (w_32 hw)) (ty := (.object "java/lang/Object")) (by decide)
        have F_b71_asynchronous : Fld Z h71 b71 "com/example/hasten/hasten/Envelope" "asynchronous" "Z" (.int (0 : Int32)) := D71 (Or.inl (w_40 hw)) (ty := .boolean) (by decide)
        have F_b71_when : Fld Z h71 b71 "com/example/hasten/hasten/Envelope" "when" "J" (.long (0 : Int64)) := D71 (Or.inl (w_43 hw)) (ty := .long) (by decide)
        have F_b71_callback : Fld Z h71 b71 "com/example/hasten/hasten/Envelope" "callback" "Ljava/lang/Runnable;" .null := D71 (Or.inl (w_72 hw)) (ty := (.object "java/lang/Runnable")) (by decide)
        clear D71 A71
        show WP p.tables e below _ T71 (mkF m 109 #[.val (.int p1), .val (.int p2), .val (.int p3), .val (.int p4), .val (.long q5), .second, .val (.int p6), .val (.int (0 : Int32)), .val (.int sa), .val (.int da), .val (.ref r_59), .val (.ref b61), .val so, .val dob, .val (.ref b68), .unset, .unset, .unset, .unset, .unset, .unset, .unset] [(.ref b71)])
        refine WP.st (T' := T71) (f' := (mkF m 110 #[.val (.int p1), .val (.int p2), .val (.int p3), .val (.int p4), .val (.long q5), .second, .val (.int p6), .val (.int (0 : Int32)), .val (.int sa), .val (.int da), .val (.ref r_59), .val (.ref b61), .val so, .val dob, .val (.ref b68), .unset, .unset, .unset, .unset, .unset, .unset, .unset] [(.ref b71), (.ref b71)])) (fun t k => ?_) ?_
        · refine XS.dup X71.here hx rfl (hb hby at_109) rfl rfl ?_
          exact k
        obtain ⟨_, _, ⟨T72, L72, k72, n72⟩, -, X72, ⟨Lc72, hQ72, l72, y72, z72⟩, st72⟩ := X71.specialBack hx (y := (⟨"com/example/hasten/hasten/Message", "<init>", "()V"⟩ : MethodName)) rfl hown (mvT hZ (w_10 hw)) (mvT hZ (w_11 hw)) (mvT hZ (w_12 hw)) (by decide) (backOf (W := 1) (rm2 l Z a0 hw [] b71 h71 n0 Z0 ) hZ (w_12 hw) (w_9 hw) (by decide) (by decide)) (g := (mkF m 110 #[.val (.int p1), .val (.int p2), .val (.int p3), .val (.int p4), .val (.long q5), .second, .val (.int p6), .val (.int (0 : Int32)), .val (.int sa), .val (.int da), .val (.ref r_59), .val (.ref b61), .val so, .val dob, .val (.ref b68), .unset, .unset, .unset, .unset, .unset, .unset, .unset] [(.ref b71), (.ref b71)])) rfl (by rw [hml]; rfl) (Steps.refl _) (a := b71) (argsL := []) (rest := [(.ref b71)]) (lenOf pd_0 rfl) rfl (by show 2 * 0 + _ ≤ _; exact Nat.le_of_eq rfl) (hb hby at_110) (fun _ _ => ⟨rfl, e71, (by decide : 4 + 0 ≤ _), (by decide : 43 + 0 ≤ _)⟩)
        dsimp only [Pt.U, Pt.locs, Pt.cells, Pt.slots] at X72 l72 y72 z72 st72 hQ72
        subst l72 y72 z72
        obtain ⟨rfl, Nq72, Kq72⟩ := hQ72
        replace NF := Fr.app NF Nq72
        clear Nq72
        refine WP.tr st72 ?_
        clear st72
        obtain ⟨h72, e72⟩ : ∃ h, T72.heap = h := ⟨_, rfl⟩
        rw [e72] at Kq72
        replace E_b61 := E_b61.keep Kq72
        replace F_b61_what := F_b61_what.keep Kq72 (by exact nin0)
        replace F_b61_arg1 := F_b61_arg1.keep Kq72 (by exact nin0)
        replace F_b61_arg2 := F_b61_arg2.keep Kq72 (by exact nin0)
        replace F_b61_obj := F_b61_obj.keep Kq72 (by exact nin0)
        replace F_b61_asynchronous := F_b61_asynchronous.keep Kq72 (by exact nin0)
        replace F_b61_when := F_b61_when.keep Kq72 (by exact nin0)
        replace F_b61_callback := F_b61_callback.keep Kq72 (by exact nin0)
        replace E_b68 := E_b68.keep Kq72
        replace F_b68_what := F_b68_what.keep Kq72 (by exact nin0)
        replace F_b68_arg1 := F_b68_arg1.keep Kq72 (by exact nin0)
        replace F_b68_arg2 := F_b68_arg2.keep Kq72 (by exact nin0)
        replace F_b68_obj := F_b68_obj.keep Kq72 (by exact nin0)
        replace F_b68_asynchronous := F_b68_asynchronous.keep Kq72 (by exact nin0)
        replace F_b68_when := F_b68_when.keep Kq72 (by exact nin0)
        replace F_b68_callback := F_b68_callback.keep Kq72 (by exact nin0)
        replace E_b71 := E_b71.keep Kq72
        replace F_b71_what := F_b71_what.keep Kq72 (by exact nin0)
        replace F_b71_arg1 := F_b71_arg1.keep Kq72 (by exact nin0)
        replace F_b71_arg2 := F_b71_arg2.keep Kq72 (by exact nin0)
        replace F_b71_obj := F_b71_obj.keep Kq72 (by exact nin0)
        replace F_b71_asynchronous := F_b71_asynchronous.keep Kq72 (by exact nin0)
        replace F_b71_when := F_b71_when.keep Kq72 (by exact nin0)
        replace F_b71_callback := F_b71_callback.keep Kq72 (by exact nin0)
        replace Z0 := Nat.le_trans Z0 Kq72.1
        clear Kq72
        have hXN : ∃ LL, Stand p l e room_1 s m #[(.int p1), (.int p2), (.int p3), (.int p4), (.long q5), (.int p6)] below meth c T72 LL 4 43 ∧ Fr n0 LL := ⟨_, X72, NF⟩
        clear X72 NF
        obtain ⟨LL73, X72, NF⟩ := hXN
        show WP p.tables e below _ T72 (mkF m 113 #[.val (.int p1), .val (.int p2), .val (.int p3), .val (.int p4), .val (.long q5), .second, .val (.int p6), .val (.int (0 : Int32)), .val (.int sa), .val (.int da), .val (.ref r_59), .val (.ref b61), .val so, .val dob, .val (.ref b68), .unset, .unset, .unset, .unset, .unset, .unset, .unset] [(.ref b71)])
        refine WP.st (T' := T72) (f' := (mkF m 118 #[.val (.int p1), .val (.int p2), .val (.int p3), .val (.int p4), .val (.long q5), .second, .val (.int p6), .val (.int (0 : Int32)), .val (.int sa), .val (.int da), .val (.ref r_59), .val (.ref b61), .val so, .val dob, .val (.ref b68), .val (.ref b71), .unset, .unset, .unset, .unset, .unset, .unset] [(.int p4), (.ref b68)])) (fun t k => ?_) ?_
        · refine XS.astore X72.here hx rfl (hb hby at_113) rfl rfl (l' := #[.val (.int p1), .val (.int p2), .val (.int p3), .val (.int p4), .val (.long q5), .second, .val (.int p6), .val (.int (0 : Int32)), .val (.int sa), .val (.int da), .val (.ref r_59), .val (.ref b61), .val so, .val dob, .val (.ref b68), .val (.ref b71), .unset, .unset, .unset, .unset, .unset, .unset]) rfl ?_
          show Steps p.tables e below (T72.setTop (mkF m 115 #[.val (.int p1), .val (.int p2), .val (.int p3), .val (.int p4), .val (.long q5), .second, .val (.int p6), .val (.int (0 : Int32)), .val (.int sa), .val (.int da), .val (.ref r_59), .val (.ref b61), .val so, .val dob, .val (.ref b68), .val (.ref b71), .unset, .unset, .unset, .unset, .unset, .unset] [])) t
          refine XS.aload X72.here hx rfl (hb hby at_115) rfl rfl ?_
          show Steps p.tables e below (T72.setTop (mkF m 117 #[.val (.int p1), .val (.int p2), .val (.int p3), .val (.int p4), .val (.long q5), .second, .val (.int p6), .val (.int (0 : Int32)), .val (.int sa), .val (.int da), .val (.ref r_59), .val (.ref b61), .val so, .val dob, .val (.ref b68), .val (.ref b71), .unset, .unset, .unset, .unset, .unset, .unset] [(.ref b68)])) t
          refine XS.iloadN X72.here hx rfl (hb hby at_117) rfl ?_
          exact k
        obtain ⟨T74, h74, X74, e74, W74, st74⟩ := putF X72 hx hZ hown (host := "") (Or.inl (w_25 hw)) Via.refl e72 F_b68_what E_b68 (Or.inl (w_26 hw)) (w_8 hw) (ty := .int) (by decide) rfl rfl (g := (mkF m 118 #[.val (.int p1), .val (.int p2), .val (.int p3), .val (.int p4), .val (.long q5), .second, .val (.int p6), .val (.int (0 : Int32)), .val (.int sa), .val (.int da), .val (.ref r_59), .val (.ref b61), .val so, .val dob, .val (.ref b68), .val (.ref b71), .unset, .unset, .unset, .unset, .unset, .unset] [(.int p4), (.ref b68)])) rfl rfl (hb hby at_118)
        refine WP.st st74 ?_
        clear st74
        replace E_b61 := E_b61.wr W74
        replace F_b61_what := F_b61_what.other W74 (Or.inl ne_b61_b68)
        replace F_b61_arg1 := F_b61_arg1.other W74 (Or.inl ne_b61_b68)
        replace F_b61_arg2 := F_b61_arg2.other W74 (Or.inl ne_b61_b68)
        replace F_b61_obj := F_b61_obj.other W74 (Or.inl ne_b61_b68)
        replace F_b61_asynchronous := F_b61_asynchronous.other W74 (Or.inl ne_b61_b68)
        replace F_b61_when := F_b61_when.other W74 (Or.inl ne_b61_b68)
        replace F_b61_callback := F_b61_callback.other W74 (Or.inl ne_b61_b68)
        replace E_b68 := E_b68.wr W74
        replace F_b68_what := F_b68_what.same W74
        replace F_b68_arg1 := F_b68_arg1.other W74 (Or.inr (sn_6 hw))
        replace F_b68_arg2 := F_b68_arg2.other W74 (Or.inr (sn_7 hw))
        replace F_b68_obj := F_b68_obj.other W74 (Or.inr (sn_8 hw))
        replace F_b68_asynchronous := F_b68_asynchronous.other W74 (Or.inr (sn_9 hw))
        replace F_b68_when := F_b68_when.other W74 (Or.inr (sn_10 hw))
        replace F_b68_callback := F_b68_callback.other W74 (Or.inr (sn_11 hw))
        replace E_b71 := E_b71.wr W74
        replace F_b71_what := F_b71_what.other W74 (Or.inl (Ne.symm ne_b68_b71))
        replace F_b71_arg1 := F_b71_arg1.other W74 (Or.inl (Ne.symm ne_b68_b71))
        replace F_b71_arg2 := F_b71_arg2.other W74 (Or.inl (Ne.symm ne_b68_b71))
        replace F_b71_obj := F_b71_obj.other W74 (Or.inl (Ne.symm ne_b68_b71))
        replace F_b71_asynchronous := F_b71_asynchronous.other W74 (Or.inl (Ne.symm ne_b68_b71))
        replace F_b71_when := F_b71_when.other W74 (Or.inl (Ne.symm ne_b68_b71))
        replace F_b71_callback := F_b71_callback.other W74 (Or.inl (Ne.symm ne_b68_b71))
        replace Z0 := Nat.le_trans Z0 (Keep.of_wr W74).1
        replace NF := Fr.snoc X74 NF g_b68
        clear W74
        have hXN : ∃ LL, Stand p l e room_1 s m #[(.int p1), (.int p2), (.int p3), (.int p4), (.long q5), (.int p6)] below meth c T74 LL 4 43 ∧ Fr n0 LL := ⟨_, X74, NF⟩
        clear X74 NF
        obtain ⟨LL75, X74, NF⟩ := hXN
        show WP p.tables e below _ T74 (mkF m 121 #[.val (.int p1), .val (.int p2), .val (.int p3), .val (.int p4), .val (.long q5), .second, .val (.int p6), .val (.int (0 : Int32)), .val (.int sa), .val (.int da), .val (.ref r_59), .val (.ref b61), .val so, .val dob, .val (.ref b68), .val (.ref b71), .unset, .unset, .unset, .unset, .unset, .unset] [])
        refine WP.st (T' := T74) (f' := (mkF m 126 #[.val (.int p1), .val (.int p2), .val (.int p3), .val (.int p4), .val (.long q5), .second, .val (.int p6), .val (.int (0 : Int32)), .val (.int sa), .val (.int da), .val (.ref r_59), .val (.ref b61), .val so, .val dob, .val (.ref b68), .val (.ref b71), .unset, .unset, .unset, .unset, .unset, .unset] [(.int (p4 ^^^ (-1 : Int32))), (.ref b68)])) (fun t k => ?_) ?_
        · refine XS.aload X74.here hx rfl (hb hby at_121) rfl rfl ?_
          show Steps p.tables e below (T74.setTop (mkF m 123 #[.val (.int p1), .val (.int p2), .val (.int p3), .val (.int p4), .val (.long q5), .second, .val (.int p6), .val (.int (0 : Int32)), .val (.int sa), .val (.int da), .val (.ref r_59), .val (.ref b61), .val so, .val dob, .val (.ref b68), .val (.ref b71), .unset, .unset, .unset, .unset, .unset, .unset] [(.ref b68)])) t
          refine XS.iloadN X74.here hx rfl (hb hby at_123) rfl ?_
          show Steps p.tables e below (T74.setTop (mkF m 124 #[.val (.int p1), .val (.int p2), .val (.int p3), .val (.int p4), .val (.long q5), .second, .val (.int p6), .val (.int (0 : Int32)), .val (.int sa), .val (.int da), .val (.ref r_59), .val (.ref b61), .val so, .val dob, .val (.ref b68), .val (.ref b71), .unset, .unset, .unset, .unset, .unset, .unset] [(.int p4), (.ref b68)])) t
          refine XS.iconst X74.here hx rfl (hb hby at_124) ?_
          show Steps p.tables e below (T74.setTop (mkF m 125 #[.val (.int p1), .val (.int p2), .val (.int p3), .val (.int p4), .val (.long q5), .second, .val (.int p6), .val (.int (0 : Int32)), .val (.int sa), .val (.int da), .val (.ref r_59), .val (.ref b61), .val so, .val dob, .val (.ref b68), .val (.ref b71), .unset, .unset, .unset, .unset, .unset, .unset] [(.int (-1 : Int32)), (.int p4), (.ref b68)])) t
          refine XS.ixor X74.here hx rfl (hb hby at_125) rfl ?_
          exact k
        obtain ⟨T76, h76, X76, e76, W76, st76⟩ := putF X74 hx hZ hown (host := "") (Or.inl (w_27 hw)) Via.refl e74 F_b68_arg1 E_b68 (Or.inl (w_28 hw)) (w_8 hw) (ty := .int) (by decide) rfl rfl (g := (mkF m 126 #[.val (.int p1), .val (.int p2), .val (.int p3), .val (.int p4), .val (.long q5), .second, .val (.int p6), .val (.int (0 : Int32)), .val (.int sa), .val (.int da), .val (.ref r_59), .val (.ref b61), .val so, .val dob, .val (.ref b68), .val (.ref b71), .unset, .unset, .unset, .unset, .unset, .unset] [(.int (p4 ^^^ (-1 : Int32))), (.ref b68)])) rfl rfl (hb hby at_126)
        refine WP.st st76 ?_
        clear st76
        replace E_b61 := E_b61.wr W76
        replace F_b61_what := F_b61_what.other W76 (Or.inl ne_b61_b68)
        replace F_b61_arg1 := F_b61_arg1.other W76 (Or.inl ne_b61_b68)
        replace F_b61_arg2 := F_b61_arg2.other W76 (Or.inl ne_b61_b68)
        replace F_b61_obj := F_b61_obj.other W76 (Or.inl ne_b61_b68)
        replace F_b61_asynchronous := F_b61_asynchronous.other W76 (Or.inl ne_b61_b68)
        replace F_b61_when := F_b61_when.other W76 (Or.inl ne_b61_b68)
        replace F_b61_callback := F_b61_callback.other W76 (Or.inl ne_b61_b68)
        replace E_b68 := E_b68.wr W76
        replace F_b68_what := F_b68_what.other W76 (Or.inr (sn_12 hw))
        replace F_b68_arg1 := F_b68_arg1.same W76
        replace F_b68_arg2 := F_b68_arg2.other W76 (Or.inr (sn_13 hw))
        replace F_b68_obj := F_b68_obj.other W76 (Or.inr (sn_14 hw))
        replace F_b68_asynchronous := F_b68_asynchronous.other W76 (Or.inr (sn_15 hw))
        replace F_b68_when := F_b68_when.other W76 (Or.inr (sn_16 hw))
        replace F_b68_callback := F_b68_callback.other W76 (Or.inr (sn_17 hw))
        replace E_b71 := E_b71.wr W76
        replace F_b71_what := F_b71_what.other W76 (Or.inl (Ne.symm ne_b68_b71))
        replace F_b71_arg1 := F_b71_arg1.other W76 (Or.inl (Ne.symm ne_b68_b71))
        replace F_b71_arg2 := F_b71_arg2.other W76 (Or.inl (Ne.symm ne_b68_b71))
        replace F_b71_obj := F_b71_obj.other W76 (Or.inl (Ne.symm ne_b68_b71))
        replace F_b71_asynchronous := F_b71_asynchronous.other W76 (Or.inl (Ne.symm ne_b68_b71))
        replace F_b71_when := F_b71_when.other W76 (Or.inl (Ne.symm ne_b68_b71))
        replace F_b71_callback := F_b71_callback.other W76 (Or.inl (Ne.symm ne_b68_b71))
        replace Z0 := Nat.le_trans Z0 (Keep.of_wr W76).1
        replace NF := Fr.snoc X76 NF g_b68
        clear W76
        have hXN : ∃ LL, Stand p l e room_1 s m #[(.int p1), (.int p2), (.int p3), (.int p4), (.long q5), (.int p6)] below meth c T76 LL 4 43 ∧ Fr n0 LL := ⟨_, X76, NF⟩
        clear X76 NF
        obtain ⟨LL77, X76, NF⟩ := hXN
        show WP p.tables e below _ T76 (mkF m 129 #[.val (.int p1), .val (.int p2), .val (.int p3), .val (.int p4), .val (.long q5), .second, .val (.int p6), .val (.int (0 : Int32)), .val (.int sa), .val (.int da), .val (.ref r_59), .val (.ref b61), .val so, .val dob, .val (.ref b68), .val (.ref b71), .unset, .unset, .unset, .unset, .unset, .unset] [])
        refine WP.st (T' := T76) (f' := (mkF m 134 #[.val (.int p1), .val (.int p2), .val (.int p3), .val (.int p4), .val (.long q5), .second, .val (.int p6), .val (.int (0 : Int32)), .val (.int sa), .val (.int da), .val (.ref r_59), .val (.ref b61), .val so, .val dob, .val (.ref b68), .val (.ref b71), .unset, .unset, .unset, .unset, .unset, .unset] [(.int (p4 ^^^ p3)), (.ref b68)])) (fun t k => ?_) ?_
        · refine XS.aload X76.here hx rfl (hb hby at_129) rfl rfl ?_
          show Steps p.tables e below (T76.setTop (mkF m 131 #[.val (.int p1), .val (.int p2), .val (.int p3), .val (.int p4), .val (.long q5), .second, .val (.int p6), .val (.int (0 : Int32)), .val (.int sa), .val (.int da), .val (.ref r_59), .val (.ref b61), .val so, .val dob, .val (.ref b68), .val (.ref b71), .unset, .unset, .unset, .unset, .unset, .unset] [(.ref b68)])) t
          refine XS.iloadN X76.here hx rfl (hb hby at_131) rfl ?_
          show Steps p.tables e below (T76.setTop (mkF m 132 #[.val (.int p1), .val (.int p2), .val (.int p3), .val (.int p4), .val (.long q5), .second, .val (.int p6), .val (.int (0 : Int32)), .val (.int sa), .val (.int da), .val (.ref r_59), .val (.ref b61), .val so, .val dob, .val (.ref b68), .val (.ref b71), .unset, .unset, .unset, .unset, .unset, .unset] [(.int p4), (.ref b68)])) t
          refine XS.iloadN X76.here hx rfl (hb hby at_132) rfl ?_
          show Steps p.tables e below (T76.setTop (mkF m 133 #[.val (.int p1), .val (.int p2), .val (.int p3), .val (.int p4), .val (.long q5), .second, .val (.int p6), .val (.int (0 : Int32)), .val (.int sa), .val (.int da), .val (.ref r_59), .val (.ref b61), .val so, .val dob, .val (.ref b68), .val (.ref b71), .unset, .unset, .unset, .unset, .unset, .unset] [(.int p3), (.int p4), (.ref b68)])) t
          refine XS.ixor X76.here hx rfl (hb hby at_133) rfl ?_
          exact k
        obtain ⟨T78, h78, X78, e78, W78, st78⟩ := putF X76 hx hZ hown (host := "") (Or.inl (w_29 hw)) Via.refl e76 F_b68_arg2 E_b68 (Or.inl (w_30 hw)) (w_8 hw) (ty := .int) (by decide) rfl rfl (g := (mkF m 134 #[.val (.int p1), .val (.int p2), .val (.int p3), .val (.int p4), .val (.long q5), .second, .val (.int p6), .val (.int (0 : Int32)), .val (.int sa), .val (.int da), .val (.ref r_59), .val (.ref b61), .val so, .val dob, .val (.ref b68), .val (.ref b71), .unset, .unset, .unset, .unset, .unset, .unset] [(.int (p4 ^^^ p3)), (.ref b68)])) rfl rfl (hb hby at_134)
        refine WP.st st78 ?_
        clear st78
        replace E_b61 := E_b61.wr W78
        replace F_b61_what := F_b61_what.other W78 (Or.inl ne_b61_b68)
        replace F_b61_arg1 := F_b61_arg1.other W78 (Or.inl ne_b61_b68)
        replace F_b61_arg2 := F_b61_arg2.other W78 (Or.inl ne_b61_b68)
        replace F_b61_obj := F_b61_obj.other W78 (Or.inl ne_b61_b68)
        replace F_b61_asynchronous := F_b61_asynchronous.other W78 (Or.inl ne_b61_b68)
        replace F_b61_when := F_b61_when.other W78 (Or.inl ne_b61_b68)
        replace F_b61_callback := F_b61_callback.other W78 (Or.inl ne_b61_b68)
        replace E_b68 := E_b68.wr W78
        replace F_b68_what := F_b68_what.other W78 (Or.inr (sn_18 hw))
        replace F_b68_arg1 := F_b68_arg1.other W78 (Or.inr (sn_19 hw))
        replace F_b68_arg2 := F_b68_arg2.same W78
        replace F_b68_obj := F_b68_obj.other W78 (Or.inr (sn_20 hw))
        replace F_b68_asynchronous := F_b68_asynchronous.other W78 (Or.inr (sn_21 hw))
        replace F_b68_when := F_b68_when.other W78 (Or.inr (sn_22 hw))
        replace F_b68_callback := F_b68_callback.other W78 (Or.inr (sn_23 hw))
        replace E_b71 := E_b71.wr W78
        replace F_b71_what := F_b71_what.other W78 (Or.inl (Ne.symm ne_b68_b71))
        replace F_b71_arg1 := F_b71_arg1.other W78 (Or.inl (Ne.symm ne_b68_b71))
        replace F_b71_arg2 := F_b71_arg2.other W78 (Or.inl (Ne.symm ne_b68_b71))
        replace F_b71_obj := F_b71_obj.other W78 (Or.inl (Ne.symm ne_b68_b71))
        replace F_b71_asynchronous := F_b71_asynchronous.other W78 (Or.inl (Ne.symm ne_b68_b71))
        replace F_b71_when := F_b71_when.other W78 (Or.inl (Ne.symm ne_b68_b71))
        replace F_b71_callback := F_b71_callback.other W78 (Or.inl (Ne.symm ne_b68_b71))
        replace Z0 := Nat.le_trans Z0 (Keep.of_wr W78).1
        replace NF := Fr.snoc X78 NF g_b68
        clear W78
        have hXN : ∃ LL, Stand p l e room_1 s m #[(.int p1), (.int p2), (.int p3), (.int p4), (.long q5), (.int p6)] below meth c T78 LL 4 43 ∧ Fr n0 LL := ⟨_, X78, NF⟩
        clear X78 NF
        obtain ⟨LL79, X78, NF⟩ := hXN
        show WP p.tables e below _ T78 (mkF m 137 #[.val (.int p1), .val (.int p2), .val (.int p3), .val (.int p4), .val (.long q5), .second, .val (.int p6), .val (.int (0 : Int32)), .val (.int sa), .val (.int da), .val (.ref r_59), .val (.ref b61), .val so, .val dob, .val (.ref b68), .val (.ref b71), .unset, .unset, .unset, .unset, .unset, .unset] [])
        refine WP.st (T' := T78) (f' := (mkF m 141 #[.val (.int p1), .val (.int p2), .val (.int p3), .val (.int p4), .val (.long q5), .second, .val (.int p6), .val (.int (0 : Int32)), .val (.int sa), .val (.int da), .val (.ref r_59), .val (.ref b61), .val so, .val dob, .val (.ref b68), .val (.ref b71), .unset, .unset, .unset, .unset, .unset, .unset] [dob, (.ref b68)])) (fun t k => ?_) ?_
        · refine XS.aload X78.here hx rfl (hb hby at_137) rfl rfl ?_
          show Steps p.tables e below (T78.setTop (mkF m 139 #[.val (.int p1), .val (.int p2), .val (.int p3), .val (.int p4), .val (.long q5), .second, .val (.int p6), .val (.int (0 : Int32)), .val (.int sa), .val (.int da), .val (.ref r_59), .val (.ref b61), .val so, .val dob, .val (.ref b68), .val (.ref b71), .unset, .unset, .unset, .unset, .unset, .unset] [(.ref b68)])) t
          refine XS.aload X78.here hx rfl (hb hby at_139) rfl hr_dob ?_
          exact k
        obtain ⟨T80, h80, X80, e80, W80, st80⟩ := putF X78 hx hZ hown (host := "") (Or.inl (w_31 hw)) Via.refl e78 F_b68_obj E_b68 (Or.inl (w_32 hw)) (w_8 hw) (ty := (.object "java/lang/Object")) (by decide) rfl (by rcases ref_cases hr_dob with h | ⟨z, h⟩ <;> rw [h] <;> rfl) (g := (mkF m 141 #[.val (.int p1), .val (.int p2), .val (.int p3), .val (.int p4), .val (.long q5), .second, .val (.int p6), .val (.int (0 : Int32)), .val (.int sa), .val (.int da), .val (.ref r_59), .val (.ref b61), .val so, .val dob, .val (.ref b68), .val (.ref b71), .unset, .unset, .unset, .unset, .unset, .unset] [dob, (.ref b68)])) rfl rfl (hb hby at_141)
        refine WP.st st80 ?_
        clear st80
        replace E_b61 := E_b61.wr W80
        replace F_b61_what := F_b61_what.other W80 (Or.inl ne_b61_b68)
        replace F_b61_arg1 := F_b61_arg1.other W80 (Or.inl ne_b61_b68)
        replace F_b61_arg2 := F_b61_arg2.other W80 (Or.inl ne_b61_b68)
        replace F_b61_obj := F_b61_obj.other W80 (Or.inl ne_b61_b68)
        replace F_b61_asynchronous := F_b61_asynchronous.other W80 (Or.inl ne_b61_b68)
        replace F_b61_when := F_b61_when.other W80 (Or.inl ne_b61_b68)
        replace F_b61_callback := F_b61_callback.other W80 (Or.inl ne_b61_b68)
        replace E_b68 := E_b68.wr W80
        replace F_b68_what := F_b68_what.other W80 (Or.inr (sn_24 hw))
        replace F_b68_arg1 := F_b68_arg1.other W80 (Or.inr (sn_25 hw))
        replace F_b68_arg2 := F_b68_arg2.other W80 (Or.inr (sn_26 hw))
        replace F_b68_obj := F_b68_obj.same W80
        replace F_b68_asynchronous := F_b68_asynchronous.other W80 (Or.inr (sn_27 hw))
        replace F_b68_when := F_b68_when.other W80 (Or.inr (sn_28 hw))
        replace F_b68_callback := F_b68_callback.other W80 (Or.inr (sn_29 hw))
        replace E_b71 := E_b71.wr W80
        replace F_b71_what := F_b71_what.other W80 (Or.inl (Ne.symm ne_b68_b71))
        replace F_b71_arg1 := F_b71_arg1.other W80 (Or.inl (Ne.symm ne_b68_b71))
        replace F_b71_arg2 := F_b71_arg2.other W80 (Or.inl (Ne.symm ne_b68_b71))
        replace F_b71_obj := F_b71_obj.other W80 (Or.inl (Ne.symm ne_b68_b71))
        replace F_b71_asynchronous := F_b71_asynchronous.other W80 (Or.inl (Ne.symm ne_b68_b71))
        replace F_b71_when := F_b71_when.other W80 (Or.inl (Ne.symm ne_b68_b71))
        replace F_b71_callback := F_b71_callback.other W80 (Or.inl (Ne.symm ne_b68_b71))
        replace Z0 := Nat.le_trans Z0 (Keep.of_wr W80).1
        replace NF := Fr.snoc X80 NF g_b68
        clear W80
        have hXN : ∃ LL, Stand p l e room_1 s m #[(.int p1), (.int p2), (.int p3), (.int p4), (.long q5), (.int p6)] below meth c T80 LL 4 43 ∧ Fr n0 LL := ⟨_, X80, NF⟩
        clear X80 NF
        obtain ⟨LL81, X80, NF⟩ := hXN
        show WP p.tables e below _ T80 (mkF m 144 #[.val (.int p1), .val (.int p2), .val (.int p3), .val (.int p4), .val (.long q5), .second, .val (.int p6), .val (.int (0 : Int32)), .val (.int sa), .val (.int da), .val (.ref r_59), .val (.ref b61), .val so, .val dob, .val (.ref b68), .val (.ref b71), .unset, .unset, .unset, .unset, .unset, .unset] [])
        refine WP.st (T' := T80) (f' := (mkF m 148 #[.val (.int p1), .val (.int p2), .val (.int p3), .val (.int p4), .val (.long q5), .second, .val (.int p6), .val (.int (0 : Int32)), .val (.int sa), .val (.int da), .val (.ref r_59), .val (.ref b61), .val so, .val dob, .val (.ref b68), .val (.ref b71), .unset, .unset, .unset, .unset, .unset, .unset] [(.int da), (.ref b68)])) (fun t k => ?_) ?_
        · refine XS.aload X80.here hx rfl (hb hby at_144) rfl rfl ?_
          show Steps p.tables e below (T80.setTop (mkF m 146 #[.val (.int p1), .val (.int p2), .val (.int p3), .val (.int p4), .val (.long q5), .second, .val (.int p6), .val (.int (0 : Int32)), .val (.int sa), .val (.int da), .val (.ref r_59), .val (.ref b61), .val so, .val dob, .val (.ref b68), .val (.ref b71), .unset, .unset, .unset, .unset, .unset, .unset] [(.ref b68)])) t
          refine XS.iload X80.here hx rfl (hb hby at_146) rfl ?_
          exact k
        obtain ⟨cq82, kq82, q82a, q82b, q82c⟩ := isOf hZ e80 E_b68
        obtain ⟨_, _, ⟨T82, L82, k82, n82⟩, -, X82, ⟨Lc82, hQ82, l82, y82, z82⟩, st82⟩ := X80.virtualBack hx (y := (⟨"com/example/hasten/hasten/Message", "setAsynchronous", "(Z)V"⟩ : MethodName)) (z := (⟨"com/example/hasten/hasten/Message", "setAsynchronous", "(Z)V"⟩ : MethodName)) hown (mvT hZ (w_33 hw)) (mvT hZ (w_34 hw)) (notFace_of_selects (args := #[]) (mvT hZ (w_36 hw))) (mvT hZ (w_36 hw)) (mvT hZ (w_35 hw)) (by decide) (backOf (W := 0) (rm6 l Z a0 hw [] b68 da p4 (p4 ^^^ (-1 : Int32)) (p4 ^^^ p3) dob (0 : Int32) (0 : Int64) Value.null h80 n0 Z0 E_b68 g_b68 F_b68_what F_b68_arg1 F_b68_arg2 F_b68_obj F_b68_asynchronous F_b68_when F_b68_callback (hda : da = 0 ∨ da = 1)) hZ (w_37 hw) (w_9 hw) (by decide) (by decide)) q82a q82c (g := (mkF m 148 #[.val (.int p1), .val (.int p2), .val (.int p3), .val (.int p4), .val (.long q5), .second, .val (.int p6), .val (.int (0 : Int32)), .val (.int sa), .val (.int da), .val (.ref r_59), .val (.ref b61), .val so, .val dob, .val (.ref b68), .val (.ref b71), .unset, .unset, .unset, .unset, .unset, .unset] [(.int da), (.ref b68)])) rfl (by rw [hml]; rfl) (Steps.refl _) (argsL := [(.int da)]) (rest := []) (lenOf pd_4 rfl) rfl (by show 2 * 0 + _ ≤ _; exact Nat.le_of_eq rfl) (hb hby at_148) (fun _ _ => ⟨rfl, e80, (by decide : 4 + 0 ≤ _), (by decide : 43 + 0 ≤ _)⟩)
        dsimp only [Pt.U, Pt.locs, Pt.cells, Pt.slots] at X82 l82 y82 z82 st82 hQ82
        subst l82 y82 z82
        obtain ⟨rfl, Nq82, Kq82, nF82_b68_what, nF82_b68_arg1, nF82_b68_arg2, nF82_b68_obj, nF82_b68_asynchronous, nF82_b68_when, nF82_b68_callback⟩ := hQ82
        replace NF := Fr.app NF Nq82
        clear Nq82
        refine WP.tr st82 ?_
        clear st82
        obtain ⟨h82, e82⟩ : ∃ h, T82.heap = h := ⟨_, rfl⟩
        rw [e82] at Kq82 nF82_b68_what nF82_b68_arg1 nF82_b68_arg2 nF82_b68_obj nF82_b68_asynchronous nF82_b68_when nF82_b68_callback
        replace E_b61 := E_b61.keep Kq82
        replace F_b61_what := F_b61_what.keep Kq82 (by exact ninS ne_b61_b68 (nin0))
        replace F_b61_arg1 := F_b61_arg1.keep Kq82 (by exact ninS ne_b61_b68 (nin0))
        replace F_b61_arg2 := F_b61_arg2.keep Kq82 (by exact ninS ne_b61_b68 (nin0))
        replace F_b61_obj := F_b61_obj.keep Kq82 (by exact ninS ne_b61_b68 (nin0))
        replace F_b61_asynchronous := F_b61_asynchronous.keep Kq82 (by exact ninS ne_b61_b68 (nin0))
        replace F_b61_when := F_b61_when.keep Kq82 (by exact ninS ne_b61_b68 (nin0))
        replace F_b61_callback := F_b61_callback.keep Kq82 (by exact ninS ne_b61_b68 (nin0))
        replace E_b68 := E_b68.keep Kq82
        clear F_b68_what
        clear F_b68_arg1
        clear F_b68_arg2
        clear F_b68_obj
        clear F_b68_asynchronous
        clear F_b68_when
        clear F_b68_callback
        replace E_b71 := E_b71.keep Kq82
        replace F_b71_what := F_b71_what.keep Kq82 (by exact ninS (Ne.symm ne_b68_b71) (nin0))
        replace F_b71_arg1 := F_b71_arg1.keep Kq82 (by exact ninS (Ne.symm ne_b68_b71) (nin0))
        replace F_b71_arg2 := F_b71_arg2.keep Kq82 (by exact ninS (Ne.symm ne_b68_b71) (nin0))
        replace F_b71_obj := F_b71_obj.keep Kq82 (by exact ninS (Ne.symm ne_b68_b71) (nin0))
        replace F_b71_asynchronous := F_b71_asynchronous.keep Kq82 (by exact ninS (Ne.symm ne_b68_b71) (nin0))
        replace F_b71_when := F_b71_when.keep Kq82 (by exact ninS (Ne.symm ne_b68_b71) (nin0))
        replace F_b71_callback := F_b71_callback.keep Kq82 (by exact ninS (Ne.symm ne_b68_b71) (nin0))
        replace Z0 := Nat.le_trans Z0 Kq82.1
        clear Kq82
        have F_b68_what := nF82_b68_what
        clear nF82_b68_what
        have F_b68_arg1 := nF82_b68_arg1
        clear nF82_b68_arg1
        have F_b68_arg2 := nF82_b68_arg2
        clear nF82_b68_arg2
        have F_b68_obj := nF82_b68_obj
        clear nF82_b68_obj
        have F_b68_asynchronous := nF82_b68_asynchronous
        clear nF82_b68_asynchronous
        have F_b68_when := nF82_b68_when
        clear nF82_b68_when
        have F_b68_callback := nF82_b68_callback
        clear nF82_b68_callback
        have hXN : ∃ LL, Stand p l e room_1 s m #[(.int p1), (.int p2), (.int p3), (.int p4), (.long q5), (.int p6)] below meth c T82 LL 4 43 ∧ Fr n0 LL := ⟨_, X82, NF⟩
        clear X82 NF
        obtain ⟨LL83, X82, NF⟩ := hXN
        show WP p.tables e below _ T82 (mkF m 151 #[.val (.int p1), .val (.int p2), .val (.int p3), .val (.int p4), .val (.long q5), .second, .val (.int p6), .val (.int (0 : Int32)), .val (.int sa), .val (.int da), .val (.ref r_59), .val (.ref b61), .val so, .val dob, .val (.ref b68), .val (.ref b71), .unset, .unset, .unset, .unset, .unset, .unset] [])
        refine WP.st (T' := T82) (f' := (mkF m 155 #[.val (.int p1), .val (.int p2), .val (.int p3), .val (.int p4), .val (.long q5), .second, .val (.int p6), .val (.int (0 : Int32)), .val (.int sa), .val (.int da), .val (.ref r_59), .val (.ref b61), .val so, .val dob, .val (.ref b68), .val (.ref b71), .unset, .unset, .unset, .unset, .unset, .unset] [(.long q5), (.ref b68)])) (fun t k => ?_) ?_
        · refine XS.aload X82.here hx rfl (hb hby at_151) rfl rfl ?_
          show Steps p.tables e below (T82.setTop (mkF m 153 #[.val (.int p1), .val (.int p2), .val (.int p3), .val (.int p4), .val (.long q5), .second, .val (.int p6), .val (.int (0 : Int32)), .val (.int sa), .val (.int da), .val (.ref r_59), .val (.ref b61), .val so, .val dob, .val (.ref b68), .val (.ref b71), .unset, .unset, .unset, .unset, .unset, .unset] [(.ref b68)])) t
          refine XS.lload X82.here hx rfl (hb hby at_153) rfl ?_
          exact k
        obtain ⟨T84, h84, X84, e84, W84, st84⟩ := putF X82 hx hZ hown (host := "") (Or.inl (w_41 hw)) (Via.of (w_42 hw)) e82 F_b68_when E_b68 (Or.inl (w_43 hw)) (w_8 hw) (ty := .long) (by decide) rfl rfl (g := (mkF m 155 #[.val (.int p1), .val (.int p2), .val (.int p3), .val (.int p4), .val (.long q5), .second, .val (.int p6), .val (.int (0 : Int32)), .val (.int sa), .val (.int da), .val (.ref r_59), .val (.ref b61), .val so, .val dob, .val (.ref b68), .val (.ref b71), .unset, .unset, .unset, .unset, .unset, .unset] [(.long q5), (.ref b68)])) rfl rfl (hb hby at_155)
        refine WP.st st84 ?_
        clear st84
        replace E_b61 := E_b61.wr W84
        replace F_b61_what := F_b61_what.other W84 (Or.inl ne_b61_b68)
        replace F_b61_arg1 := F_b61_arg1.other W84 (Or.inl ne_b61_b68)
        replace F_b61_arg2 := F_b61_arg2.other W84 (Or.inl ne_b61_b68)
        replace F_b61_obj := F_b61_obj.other W84 (Or.inl ne_b61_b68)
        replace F_b61_asynchronous := F_b61_asynchronous.other W84 (Or.inl ne_b61_b68)
        replace F_b61_when := F_b61_when.other W84 (Or.inl ne_b61_b68)
        replace F_b61_callback := F_b61_callback.other W84 (Or.inl ne_b61_b68)
        replace E_b68 := E_b68.wr W84
        replace E_b71 := E_b71.wr W84
        replace F_b71_what := F_b71_what.other W84 (Or.inl (Ne.symm ne_b68_b71))
        replace F_b71_arg1 := F_b71_arg1.other W84 (Or.inl (Ne.symm ne_b68_b71))
        replace F_b71_arg2 := F_b71_arg2.other W84 (Or.inl (Ne.symm ne_b68_b71))
        replace F_b71_obj := F_b71_obj.other W84 (Or.inl (Ne.symm ne_b68_b71))
        replace F_b71_asynchronous := F_b71_asynchronous.other W84 (Or.inl (Ne.symm ne_b68_b71))
        replace F_b71_when := F_b71_when.other W84 (Or.inl (Ne.symm ne_b68_b71))
        replace F_b71_callback := F_b71_callback.other W84 (Or.inl (Ne.symm ne_b68_b71))
        replace F_b68_what := F_b68_what.other W84 (Or.inr (sn_30 hw))
        replace F_b68_arg1 := F_b68_arg1.other W84 (Or.inr (sn_31 hw))
        replace F_b68_arg2 := F_b68_arg2.other W84 (Or.inr (sn_32 hw))
        replace F_b68_obj := F_b68_obj.other W84 (Or.inr (sn_33 hw))
        replace F_b68_asynchronous := F_b68_asynchronous.other W84 (Or.inr (sn_34 hw))
        replace F_b68_when := F_b68_when.same W84
        replace F_b68_callback := F_b68_callback.other W84 (Or.inr (sn_35 hw))
        replace Z0 := Nat.le_trans Z0 (Keep.of_wr W84).1
        replace NF := Fr.snoc X84 NF g_b68
        clear W84
        have hXN : ∃ LL, Stand p l e room_1 s m #[(.int p1), (.int p2), (.int p3), (.int p4), (.long q5), (.int p6)] below meth c T84 LL 4 43 ∧ Fr n0 LL := ⟨_, X84, NF⟩
        clear X84 NF
        obtain ⟨LL85, X84, NF⟩ := hXN
        show WP p.tables e below _ T84 (mkF m 158 #[.val (.int p1), .val (.int p2), .val (.int p3), .val (.int p4), .val (.long q5), .second, .val (.int p6), .val (.int (0 : Int32)), .val (.int sa), .val (.int da), .val (.ref r_59), .val (.ref b61), .val so, .val dob, .val (.ref b68), .val (.ref b71), .unset, .unset, .unset, .unset, .unset, .unset] [])
        refine WP.st (T' := T84) (f' := (mkF m 161 #[.val (.int p1), .val (.int p2), .val (.int p3), .val (.int p4), .val (.long q5), .second, .val (.int p6), .val (.int (0 : Int32)), .val (.int sa), .val (.int da), .val (.ref r_59), .val (.ref b61), .val so, .val dob, .val (.ref b68), .val (.ref b71), .unset, .unset, .unset, .unset, .unset, .unset] [(.int p1), (.ref b71)])) (fun t k => ?_) ?_
        · refine XS.aload X84.here hx rfl (hb hby at_158) rfl rfl ?_
          show Steps p.tables e below (T84.setTop (mkF m 160 #[.val (.int p1), .val (.int p2), .val (.int p3), .val (.int p4), .val (.long q5), .second, .val (.int p6), .val (.int (0 : Int32)), .val (.int sa), .val (.int da), .val (.ref r_59), .val (.ref b61), .val so, .val dob, .val (.ref b68), .val (.ref b71), .unset, .unset, .unset, .unset, .unset, .unset] [(.ref b71)])) t
          refine XS.iloadN X84.here hx rfl (hb hby at_160) rfl ?_
          exact k
        obtain ⟨T86, h86, X86, e86, W86, st86⟩ := putF X84 hx hZ hown (host := "") (Or.inl (w_25 hw)) Via.refl e84 F_b71_what E_b71 (Or.inl (w_26 hw)) (w_8 hw) (ty := .int) (by decide) rfl rfl (g := (mkF m 161 #[.val (.int p1), .val (.int p2), .val (.int p3), .val (.int p4), .val (.long q5), .second, .val (.int p6), .val (.int (0 : Int32)), .val (.int sa), .val (.int da), .val (.ref r_59), .val (.ref b61), .val so, .val dob, .val (.ref b68), .val (.ref b71), .unset, .unset, .unset, .unset, .unset, .unset] [(.int p1), (.ref b71)])) rfl rfl (hb hby at_161)
        refine WP.st st86 ?_
        clear st86
        replace E_b61 := E_b61.wr W86
        replace F_b61_what := F_b61_what.other W86 (Or.inl ne_b61_b71)
        replace F_b61_arg1 := F_b61_arg1.other W86 (Or.inl ne_b61_b71)
        replace F_b61_arg2 := F_b61_arg2.other W86 (Or.inl ne_b61_b71)
        replace F_b61_obj := F_b61_obj.other W86 (Or.inl ne_b61_b71)
        replace F_b61_asynchronous := F_b61_asynchronous.other W86 (Or.inl ne_b61_b71)
        replace F_b61_when := F_b61_when.other W86 (Or.inl ne_b61_b71)
        replace F_b61_callback := F_b61_callback.other W86 (Or.inl ne_b61_b71)
        replace E_b68 := E_b68.wr W86
        replace E_b71 := E_b71.wr W86
        replace F_b71_what := F_b71_what.same W86
        replace F_b71_arg1 := F_b71_arg1.other W86 (Or.inr (sn_6 hw))
        replace F_b71_arg2 := F_b71_arg2.other W86 (Or.inr (sn_7 hw))
        replace F_b71_obj := F_b71_obj.other W86 (Or.inr (sn_8 hw))
        replace F_b71_asynchronous := F_b71_asynchronous.other W86 (Or.inr (sn_9 hw))
        replace F_b71_when := F_b71_when.other W86 (Or.inr (sn_10 hw))
        replace F_b71_callback := F_b71_callback.other W86 (Or.inr (sn_11 hw))
        replace F_b68_what := F_b68_what.other W86 (Or.inl ne_b68_b71)
        replace F_b68_arg1 := F_b68_arg1.other W86 (Or.inl ne_b68_b71)
        replace F_b68_arg2 := F_b68_arg2.other W86 (Or.inl ne_b68_b71)
        replace F_b68_obj := F_b68_obj.other W86 (Or.inl ne_b68_b71)
        replace F_b68_asynchronous := F_b68_asynchronous.other W86 (Or.inl ne_b68_b71)
        replace F_b68_when := F_b68_when.other W86 (Or.inl ne_b68_b71)
        replace F_b68_callback := F_b68_callback.other W86 (Or.inl ne_b68_b71)
        replace Z0 := Nat.le_trans Z0 (Keep.of_wr W86).1
        replace NF := Fr.snoc X86 NF g_b71
        clear W86
        have hXN : ∃ LL, Stand p l e room_1 s m #[(.int p1), (.int p2), (.int p3), (.int p4), (.long q5), (.int p6)] below meth c T86 LL 4 43 ∧ Fr n0 LL := ⟨_, X86, NF⟩
        clear X86 NF
        obtain ⟨LL87, X86, NF⟩ := hXN
        show WP p.tables e below _ T86 (mkF m 164 #[.val (.int p1), .val (.int p2), .val (.int p3), .val (.int p4), .val (.long q5), .second, .val (.int p6), .val (.int (0 : Int32)), .val (.int sa), .val (.int da), .val (.ref r_59), .val (.ref b61), .val so, .val dob, .val (.ref b68), .val (.ref b71), .unset, .unset, .unset, .unset, .unset, .unset] [])
        refine WP.st (T' := T86) (f' := (mkF m 167 #[.val (.int p1), .val (.int p2), .val (.int p3), .val (.int p4), .val (.long q5), .second, .val (.int p6), .val (.int (0 : Int32)), .val (.int sa), .val (.int da), .val (.ref r_59), .val (.ref b61), .val so, .val dob, .val (.ref b68), .val (.ref b71), .unset, .unset, .unset, .unset, .unset, .unset] [(.int p2), (.ref b71)])) (fun t k => ?_) ?_
        · refine XS.aload X86.here hx rfl (hb hby at_164) rfl rfl ?_
          show Steps p.tables e below (T86.setTop (mkF m 166 #[.val (.int p1), .val (.int p2), .val (.int p3), .val (.int p4), .val (.long q5), .second, .val (.int p6), .val (.int (0 : Int32)), .val (.int sa), .val (.int da), .val (.ref r_59), .val (.ref b61), .val so, .val dob, .val (.ref b68), .val (.ref b71), .unset, .unset, .unset, .unset, .unset, .unset] [(.ref b71)])) t
          refine XS.iloadN X86.here hx rfl (hb hby at_166) rfl ?_
          exact k
        obtain ⟨T88, h88, X88, e88, W88, st88⟩ := putF X86 hx hZ hown (host := "") (Or.inl (w_27 hw)) Via.refl e86 F_b71_arg1 E_b71 (Or.inl (w_28 hw)) (w_8 hw) (ty := .int) (by decide) rfl rfl (g := (mkF m 167 #[.val (.int p1), .val (.int p2), .val (.int p3), .val (.int p4), .val (.long q5), .second, .val (.int p6), .val (.int (0 : Int32)), .val (.int sa), .val (.int da), .val (.ref r_59), .val (.ref b61), .val so, .val dob, .val (.ref b68), .val (.ref b71), .unset, .unset, .unset, .unset, .unset, .unset] [(.int p2), (.ref b71)])) rfl rfl (hb hby at_167)
        refine WP.st st88 ?_
        clear st88
        replace E_b61 := E_b61.wr W88
        replace F_b61_what := F_b61_what.other W88 (Or.inl ne_b61_b71)
        replace F_b61_arg1 := F_b61_arg1.other W88 (Or.inl ne_b61_b71)
        replace F_b61_arg2 := F_b61_arg2.other W88 (Or.inl ne_b61_b71)
        replace F_b61_obj := F_b61_obj.other W88 (Or.inl ne_b61_b71)
        replace F_b61_asynchronous := F_b61_asynchronous.other W88 (Or.inl ne_b61_b71)
        replace F_b61_when := F_b61_when.other W88 (Or.inl ne_b61_b71)
        replace F_b61_callback := F_b61_callback.other W88 (Or.inl ne_b61_b71)
        replace E_b68 := E_b68.wr W88
        replace E_b71 := E_b71.wr W88
        replace F_b71_what := F_b71_what.other W88 (Or.inr (sn_12 hw))
        replace F_b71_arg1 := F_b71_arg1.same W88
        replace F_b71_arg2 := F_b71_arg2.other W88 (Or.inr (sn_13 hw))
        replace F_b71_obj := F_b71_obj.other W88 (Or.inr (sn_14 hw))
        replace F_b71_asynchronous := F_b71_asynchronous.other W88 (Or.inr (sn_15 hw))
        replace F_b71_when := F_b71_when.other W88 (Or.inr (sn_16 hw))
        replace F_b71_callback := F_b71_callback.other W88 (Or.inr (sn_17 hw))
        replace F_b68_what := F_b68_what.other W88 (Or.inl ne_b68_b71)
        replace F_b68_arg1 := F_b68_arg1.other W88 (Or.inl ne_b68_b71)
        replace F_b68_arg2 := F_b68_arg2.other W88 (Or.inl ne_b68_b71)
        replace F_b68_obj := F_b68_obj.other W88 (Or.inl ne_b68_b71)
        replace F_b68_asynchronous := F_b68_asynchronous.other W88 (Or.inl ne_b68_b71)
        replace F_b68_when := F_b68_when.other W88 (Or.inl ne_b68_b71)
        replace F_b68_callback := F_b68_callback.other W88 (Or.inl ne_b68_b71)
        replace Z0 := Nat.le_trans Z0 (Keep.of_wr W88).1
        replace NF := Fr.snoc X88 NF g_b71
        clear W88
        have hXN : ∃ LL, Stand p l e room_1 s m #[(.int p1), (.int p2), (.int p3), (.int p4), (.long q5), (.int p6)] below meth c T88 LL 4 43 ∧ Fr n0 LL := ⟨_, X88, NF⟩
        clear X88 NF
        obtain ⟨LL89, X88, NF⟩ := hXN
        show WP p.tables e below _ T88 (mkF m 170 #[.val (.int p1), .val (.int p2), .val (.int p3), .val (.int p4), .val (.long q5), .second, .val (.int p6), .val (.int (0 : Int32)), .val (.int sa), .val (.int da), .val (.ref r_59), .val (.ref b61), .val so, .val dob, .val (.ref b68), .val (.ref b71), .unset, .unset, .unset, .unset, .unset, .unset] [])
        refine WP.st (T' := T88) (f' := (mkF m 173 #[.val (.int p1), .val (.int p2), .val (.int p3), .val (.int p4), .val (.long q5), .second, .val (.int p6), .val (.int (0 : Int32)), .val (.int sa), .val (.int da), .val (.ref r_59), .val (.ref b61), .val so, .val dob, .val (.ref b68), .val (.ref b71), .unset, .unset, .unset, .unset, .unset, .unset] [(.int p3), (.ref b71)])) (fun t k => ?_) ?_
        · refine XS.aload X88.here hx rfl (hb hby at_170) rfl rfl ?_
          show Steps p.tables e below (T88.setTop (mkF m 172 #[.val (.int p1), .val (.int p2), .val (.int p3), .val (.int p4), .val (.long q5), .second, .val (.int p6), .val (.int (0 : Int32)), .val (.int sa), .val (.int da), .val (.ref r_59), .val (.ref b61), .val so, .val dob, .val (.ref b68), .val (.ref b71), .unset, .unset, .unset, .unset, .unset, .unset] [(.ref b71)])) t
          refine XS.iloadN X88.here hx rfl (hb hby at_172) rfl ?_
          exact k
        obtain ⟨T90, h90, X90, e90, W90, st90⟩ := putF X88 hx hZ hown (host := "") (Or.inl (w_29 hw)) Via.refl e88 F_b71_arg2 E_b71 (Or.inl (w_30 hw)) (w_8 hw) (ty := .int) (by decide) rfl rfl (g := (mkF m 173 #[.val (.int p1), .val (.int p2), .val (.int p3), .val (.int p4), .val (.long q5), .second, .val (.int p6), .val (.int (0 : Int32)), .val (.int sa), .val (.int da), .val (.ref r_59), .val (.ref b61), .val so, .val dob, .val (.ref b68), .val (.ref b71), .unset, .unset, .unset, .unset, .unset, .unset] [(.int p3), (.ref b71)])) rfl rfl (hb hby at_173)
        refine WP.st st90 ?_
        clear st90
        replace E_b61 := E_b61.wr W90
        replace F_b61_what := F_b61_what.other W90 (Or.inl ne_b61_b71)
        replace F_b61_arg1 := F_b61_arg1.other W90 (Or.inl ne_b61_b71)
        replace F_b61_arg2 := F_b61_arg2.other W90 (Or.inl ne_b61_b71)
        replace F_b61_obj := F_b61_obj.other W90 (Or.inl ne_b61_b71)
        replace F_b61_asynchronous := F_b61_asynchronous.other W90 (Or.inl ne_b61_b71)
        replace F_b61_when := F_b61_when.other W90 (Or.inl ne_b61_b71)
        replace F_b61_callback := F_b61_callback.other W90 (Or.inl ne_b61_b71)
        replace E_b68 := E_b68.wr W90
        replace E_b71 := E_b71.wr W90
        replace F_b71_what := F_b71_what.other W90 (Or.inr (sn_18 hw))
        replace F_b71_arg1 := F_b71_arg1.other W90 (Or.inr (sn_19 hw))
        replace F_b71_arg2 := F_b71_arg2.same W90
        replace F_b71_obj := F_b71_obj.other W90 (Or.inr (sn_20 hw))
        replace F_b71_asynchronous := F_b71_asynchronous.other W90 (Or.inr (sn_21 hw))
        replace F_b71_when := F_b71_when.other W90 (Or.inr (sn_22 hw))
        replace F_b71_callback := F_b71_callback.other W90 (Or.inr (sn_23 hw))
        replace F_b68_what := F_b68_what.other W90 (Or.inl ne_b68_b71)
        replace F_b68_arg1 := F_b68_arg1.other W90 (Or.inl ne_b68_b71)
        replace F_b68_arg2 := F_b68_arg2.other W90 (Or.inl ne_b68_b71)
        replace F_b68_obj := F_b68_obj.other W90 (Or.inl ne_b68_b71)
        replace F_b68_asynchronous := F_b68_asynchronous.other W90 (Or.inl ne_b68_b71)
        replace F_b68_when := F_b68_when.other W90 (Or.inl ne_b68_b71)
        replace F_b68_callback := F_b68_callback.other W90 (Or.inl ne_b68_b71)
        replace Z0 := Nat.le_trans Z0 (Keep.of_wr W90).1
        replace NF := Fr.snoc X90 NF g_b71
        clear W90
        have hXN : ∃ LL, Stand p l e room_1 s m #[(.int p1), (.int p2), (.int p3), (.int p4), (.long q5), (.int p6)] below meth c T90 LL 4 43 ∧ Fr n0 LL := ⟨_, X90, NF⟩
        clear X90 NF
        obtain ⟨LL91, X90, NF⟩ := hXN
        show WP p.tables e below _ T90 (mkF m 176 #[.val (.int p1), .val (.int p2), .val (.int p3), .val (.int p4), .val (.long q5), .second, .val (.int p6), .val (.int (0 : Int32)), .val (.int sa), .val (.int da), .val (.ref r_59), .val (.ref b61), .val so, .val dob, .val (.ref b68), .val (.ref b71), .unset, .unset, .unset, .unset, .unset, .unset] [])
        refine WP.st (T' := T90) (f' := (mkF m 180 #[.val (.int p1), .val (.int p2), .val (.int p3), .val (.int p4), .val (.long q5), .second, .val (.int p6), .val (.int (0 : Int32)), .val (.int sa), .val (.int da), .val (.ref r_59), .val (.ref b61), .val so, .val dob, .val (.ref b68), .val (.ref b71), .unset, .unset, .unset, .unset, .unset, .unset] [so, (.ref b71)])) (fun t k => ?_) ?_
        · refine XS.aload X90.here hx rfl (hb hby at_176) rfl rfl ?_
          show Steps p.tables e below (T90.setTop (mkF m 178 #[.val (.int p1), .val (.int p2), .val (.int p3), .val (.int p4), .val (.long q5), .second, .val (.int p6), .val (.int (0 : Int32)), .val (.int sa), .val (.int da), .val (.ref r_59), .val (.ref b61), .val so, .val dob, .val (.ref b68), .val (.ref b71), .unset, .unset, .unset, .unset, .unset, .unset] [(.ref b71)])) t
          refine XS.aload X90.here hx rfl (hb hby at_178) rfl hr_so ?_
          exact k
        obtain ⟨T92, h92, X92, e92, W92, st92⟩ := putF X90 hx hZ hown (host := "") (Or.inl (w_31 hw)) Via.refl e90 F_b71_obj E_b71 (Or.inl (w_32 hw)) (w_8 hw) (ty := (.object "java/lang/Object")) (by decide) rfl (by rcases ref_cases hr_so with h | ⟨z, h⟩ <;> rw [h] <;> rfl) (g := (mkF m 180 #[.val (.int p1), .val (.int p2), .val (.int p3), .val (.int p4), .val (.long q5), .second, .val (.int p6), .val (.int (0 : Int32)), .val (.int sa), .val (.int da), .val (.ref r_59), .val (.ref b61), .val so, .val dob, .val (.ref b68), .val (.ref b71), .unset, .unset, .unset, .unset, .unset, .unset] [so, (.ref b71)])) rfl rfl (hb hby at_180)
        refine WP.st st92 ?_
        clear st92
        replace E_b61 := E_b61.wr W92
        replace F_b61_what := F_b61_what.other W92 (Or.inl ne_b61_b71)
        replace F_b61_arg1 := F_b61_arg1.other W92 (Or.inl ne_b61_b71)
        replace F_b61_arg2 := F_b61_arg2.other W92 (Or.inl ne_b61_b71)
        replace F_b61_obj := F_b61_obj.other W92 (Or.inl ne_b61_b71)
        replace F_b61_asynchronous := F_b61_asynchronous.other W92 (Or.inl ne_b61_b71)
        replace F_b61_when := F_b61_when.other W92 (Or.inl ne_b61_b71)
        replace F_b61_callback := F_b61_callback.other W92 (Or.inl ne_b61_b71)
        replace E_b68 := E_b68.wr W92
        replace E_b71 := E_b71.wr W92
        replace F_b71_what := F_b71_what.other W92 (Or.inr (sn_24 hw))
        replace F_b71_arg1 := F_b71_arg1.other W92 (Or.inr (sn_25 hw))
        replace F_b71_arg2 := F_b71_arg2.other W92 (Or.inr (sn_26 hw))
        replace F_b71_obj := F_b71_obj.same W92
        replace F_b71_asynchronous := F_b71_asynchronous.other W92 (Or.inr (sn_27 hw))
        replace F_b71_when := F_b71_when.other W92 (Or.inr (sn_28 hw))
        replace F_b71_callback := F_b71_callback.other W92 (Or.inr (sn_29 hw))
        replace F_b68_what := F_b68_what.other W92 (Or.inl ne_b68_b71)
        replace F_b68_arg1 := F_b68_arg1.other W92 (Or.inl ne_b68_b71)
        replace F_b68_arg2 := F_b68_arg2.other W92 (Or.inl ne_b68_b71)
        replace F_b68_obj := F_b68_obj.other W92 (Or.inl ne_b68_b71)
        replace F_b68_asynchronous := F_b68_asynchronous.other W92 (Or.inl ne_b68_b71)
        replace F_b68_when := F_b68_when.other W92 (Or.inl ne_b68_b71)
        replace F_b68_callback := F_b68_callback.other W92 (Or.inl ne_b68_b71)
        replace Z0 := Nat.le_trans Z0 (Keep.of_wr W92).1
        replace NF := Fr.snoc X92 NF g_b71
        clear W92
        have hXN : ∃ LL, Stand p l e room_1 s m #[(.int p1), (.int p2), (.int p3), (.int p4), (.long q5), (.int p6)] below meth c T92 LL 4 43 ∧ Fr n0 LL := ⟨_, X92, NF⟩
        clear X92 NF
        obtain ⟨LL93, X92, NF⟩ := hXN
        show WP p.tables e below _ T92 (mkF m 183 #[.val (.int p1), .val (.int p2), .val (.int p3), .val (.int p4), .val (.long q5), .second, .val (.int p6), .val (.int (0 : Int32)), .val (.int sa), .val (.int da), .val (.ref r_59), .val (.ref b61), .val so, .val dob, .val (.ref b68), .val (.ref b71), .unset, .unset, .unset, .unset, .unset, .unset] [])
        refine WP.st (T' := T92) (f' := (mkF m 187 #[.val (.int p1), .val (.int p2), .val (.int p3), .val (.int p4), .val (.long q5), .second, .val (.int p6), .val (.int (0 : Int32)), .val (.int sa), .val (.int da), .val (.ref r_59), .val (.ref b61), .val so, .val dob, .val (.ref b68), .val (.ref b71), .unset, .unset, .unset, .unset, .unset, .unset] [(.int sa), (.ref b71)])) (fun t k => ?_) ?_
        · refine XS.aload X92.here hx rfl (hb hby at_183) rfl rfl ?_
          show Steps p.tables e below (T92.setTop (mkF m 185 #[.val (.int p1), .val (.int p2), .val (.int p3), .val (.int p4), .val (.long q5), .second, .val (.int p6), .val (.int (0 : Int32)), .val (.int sa), .val (.int da), .val (.ref r_59), .val (.ref b61), .val so, .val dob, .val (.ref b68), .val (.ref b71), .unset, .unset, .unset, .unset, .unset, .unset] [(.ref b71)])) t
          refine XS.iload X92.here hx rfl (hb hby at_185) rfl ?_
          exact k
        obtain ⟨cq94, kq94, q94a, q94b, q94c⟩ := isOf hZ e92 E_b71
        obtain ⟨_, _, ⟨T94, L94, k94, n94⟩, -, X94, ⟨Lc94, hQ94, l94, y94, z94⟩, st94⟩ := X92.virtualBack hx (y := (⟨"com/example/hasten/hasten/Message", "setAsynchronous", "(Z)V"⟩ : MethodName)) (z := (⟨"com/example/hasten/hasten/Message", "setAsynchronous", "(Z)V"⟩ : MethodName)) hown (mvT hZ (w_33 hw)) (mvT hZ (w_34 hw)) (notFace_of_selects (args := #[]) (mvT hZ (w_36 hw))) (mvT hZ (w_36 hw)) (mvT hZ (w_35 hw)) (by decide) (backOf (W := 0) (rm6 l Z a0 hw [] b71 sa p1 p2 p3 so (0 : Int32) (0 : Int64) Value.null h92 n0 Z0 E_b71 g_b71 F_b71_what F_b71_arg1 F_b71_arg2 F_b71_obj F_b71_asynchronous F_b71_when F_b71_callback (hsa : sa = 0 ∨ sa = 1)) hZ (w_37 hw) (w_9 hw) (by decide) (by decide)) q94a q94c (g := (mkF m 187 #[.val (.int p1), .val (.int p2), .val (.int p3), .val (.int p4), .val (.long q5), .second, .val (.int p6), .val (.int (0 : Int32)), .val (.int sa), .val (.int da), .val (.ref r_59), .val (.ref b61), .val so, .val dob, .val (.ref b68), .val (.ref b71), .unset, .unset, .unset, .unset, .unset, .unset] [(.int sa), (.ref b71)])) rfl (by rw [hml]; rfl) (Steps.refl _) (argsL := [(.int sa)]) (rest := []) (lenOf pd_4 rfl) rfl (by show 2 * 0 + _ ≤ _; exact Nat.le_of_eq rfl) (hb hby at_187) (fun _ _ => ⟨rfl, e92, (by decide : 4 + 0 ≤ _), (by decide : 43 + 0 ≤ _)⟩)
        dsimp only [Pt.U, Pt.locs, Pt.cells, Pt.slots] at X94 l94 y94 z94 st94 hQ94
        subst l94 y94 z94
        obtain ⟨rfl, Nq94, Kq94, nF94_b71_what, nF94_b71_arg1, nF94_b71_arg2, nF94_b71_obj, nF94_b71_asynchronous, nF94_b71_when, nF94_b71_callback⟩ := hQ94
        replace NF := Fr.app NF Nq94
        clear Nq94
        refine WP.tr st94 ?_
        clear st94
        obtain ⟨h94, e94⟩ : ∃ h, T94.heap = h := ⟨_, rfl⟩
        rw [e94] at Kq94 nF94_b71_what nF94_b71_arg1 nF94_b71_arg2 nF94_b71_obj nF94_b71_asynchronous nF94_b71_when nF94_b71_callback
        replace E_b61 := E_b61.keep Kq94
        replace F_b61_what := F_b61_what.keep Kq94 (by exact ninS ne_b61_b71 (nin0))
        replace F_b61_arg1 := F_b61_arg1.keep Kq94 (by exact ninS ne_b61_b71 (nin0))
        replace F_b61_arg2 := F_b61_arg2.keep Kq94 (by exact ninS ne_b61_b71 (nin0))
        replace F_b61_obj := F_b61_obj.keep Kq94 (by exact ninS ne_b61_b71 (nin0))
        replace F_b61_asynchronous := F_b61_asynchronous.keep Kq94 (by exact ninS ne_b61_b71 (nin0))
        replace F_b61_when := F_b61_when.keep Kq94 (by exact ninS ne_b61_b71 (nin0))
        replace F_b61_callback := F_b61_callback.keep Kq94 (by exact ninS ne_b61_b71 (nin0))
        replace E_b68 := E_b68.keep Kq94
        replace E_b71 := E_b71.keep Kq94
        clear F_b71_what
        clear F_b71_arg1
        clear F_b71_arg2
        clear F_b71_obj
        clear F_b71_asynchronous
        clear F_b71_when
        clear F_b71_callback
        replace F_b68_what := F_b68_what.keep Kq94 (by exact ninS ne_b68_b71 (nin0))
        replace F_b68_arg1 := F_b68_arg1.keep Kq94 (by exact ninS ne_b68_b71 (nin0))
        replace F_b68_arg2 := F_b68_arg2.keep Kq94 (by exact ninS ne_b68_b71 (nin0))
        replace F_b68_obj := F_b68_obj.keep Kq94 (by exact ninS ne_b68_b71 (nin0))
        replace F_b68_asynchronous := F_b68_asynchronous.keep Kq94 (by exact ninS ne_b68_b71 (nin0))
        replace F_b68_when := F_b68_when.keep Kq94 (by exact ninS ne_b68_b71 (nin0))
        replace F_b68_callback := F_b68_callback.keep Kq94 (by exact ninS ne_b68_b71 (nin0))
        replace Z0 := Nat.le_trans Z0 Kq94.1
        clear Kq94
        have F_b71_what := nF94_b71_what
        clear nF94_b71_what
        have F_b71_arg1 := nF94_b71_arg1
        clear nF94_b71_arg1
        have F_b71_arg2 := nF94_b71_arg2
        clear nF94_b71_arg2
        have F_b71_obj := nF94_b71_obj
        clear nF94_b71_obj
        have F_b71_asynchronous := nF94_b71_asynchronous
        clear nF94_b71_asynchronous
        have F_b71_when := nF94_b71_when
        clear nF94_b71_when
        have F_b71_callback := nF94_b71_callback
        clear nF94_b71_callback
        have hXN : ∃ LL, Stand p l e room_1 s m #[(.int p1), (.int p2), (.int p3), (.int p4), (.long q5), (.int p6)] below meth c T94 LL 4 43 ∧ Fr n0 LL := ⟨_, X94, NF⟩
        clear X94 NF
        obtain ⟨LL95, X94, NF⟩ := hXN
        show WP p.tables e below _ T94 (mkF m 190 #[.val (.int p1), .val (.int p2), .val (.int p3), .val (.int p4), .val (.long q5), .second, .val (.int p6), .val (.int (0 : Int32)), .val (.int sa), .val (.int da), .val (.ref r_59), .val (.ref b61), .val so, .val dob, .val (.ref b68), .val (.ref b71), .unset, .unset, .unset, .unset, .unset, .unset] [])
        refine WP.st (T' := T94) (f' := (mkF m 198 #[.val (.int p1), .val (.int p2), .val (.int p3), .val (.int p4), .val (.long q5), .second, .val (.int p6), .val (.int (0 : Int32)), .val (.int sa), .val (.int da), .val (.ref r_59), .val (.ref b61), .val so, .val dob, .val (.ref b68), .val (.ref b71), .unset, .unset, .unset, .unset, .unset, .unset] [(.long (q5 ^^^ (-1 : Int64))), (.ref b71)])) (fun t k => ?_) ?_
        · refine XS.aload X94.here hx rfl (hb hby at_190) rfl rfl ?_
          show Steps p.tables e below (T94.setTop (mkF m 192 #[.val (.int p1), .val (.int p2), .val (.int p3), .val (.int p4), .val (.long q5), .second, .val (.int p6), .val (.int (0 : Int32)), .val (.int sa), .val (.int da), .val (.ref r_59), .val (.ref b61), .val so, .val dob, .val (.ref b68), .val (.ref b71), .unset, .unset, .unset, .unset, .unset, .unset] [(.ref b71)])) t
          refine XS.lload X94.here hx rfl (hb hby at_192) rfl ?_
          show Steps p.tables e below (T94.setTop (mkF m 194 #[.val (.int p1), .val (.int p2), .val (.int p3), .val (.int p4), .val (.long q5), .second, .val (.int p6), .val (.int (0 : Int32)), .val (.int sa), .val (.int da), .val (.ref r_59), .val (.ref b61), .val so, .val dob, .val (.ref b68), .val (.ref b71), .unset, .unset, .unset, .unset, .unset, .unset] [(.long q5), (.ref b71)])) t
          refine X94.ldc2Long hx hown (mvT hZ (w_44 hw)) (g := (mkF m 194 #[.val (.int p1), .val (.int p2), .val (.int p3), .val (.int p4), .val (.long q5), .second, .val (.int p6), .val (.int (0 : Int32)), .val (.int sa), .val (.int da), .val (.ref r_59), .val (.ref b61), .val so, .val dob, .val (.ref b68), .val (.ref b71), .unset, .unset, .unset, .unset, .unset, .unset] [(.long q5), (.ref b71)])) rfl (hb hby at_194) _ ?_
          show Steps p.tables e below (T94.setTop (mkF m 197 #[.val (.int p1), .val (.int p2), .val (.int p3), .val (.int p4), .val (.long q5), .second, .val (.int p6), .val (.int (0 : Int32)), .val (.int sa), .val (.int da), .val (.ref r_59), .val (.ref b61), .val so, .val dob, .val (.ref b68), .val (.ref b71), .unset, .unset, .unset, .unset, .unset, .unset] [(.long (-1 : Int64)), (.long q5), (.ref b71)])) t
          refine XS.lxor X94.here hx rfl (hb hby at_197) rfl ?_
          exact k
        obtain ⟨T96, h96, X96, e96, W96, st96⟩ := putF X94 hx hZ hown (host := "") (Or.inl (w_41 hw)) (Via.of (w_42 hw)) e94 F_b71_when E_b71 (Or.inl (w_43 hw)) (w_8 hw) (ty := .long) (by decide) rfl rfl (g := (mkF m 198 #[.val (.int p1), .val (.int p2), .val (.int p3), .val (.int p4), .val (.long q5), .second, .val (.int p6), .val (.int (0 : Int32)), .val (.int sa), .val (.int da), .val (.ref r_59), .val (.ref b61), .val so, .val dob, .val (.ref b68), .val (.ref b71), .unset, .unset, .unset, .unset, .unset, .unset] [(.long (q5 ^^^ (-1 : Int64))), (.ref b71)])) rfl rfl (hb hby at_198)
        refine WP.st st96 ?_
        clear st96
        replace E_b61 := E_b61.wr W96
        replace F_b61_what := F_b61_what.other W96 (Or.inl ne_b61_b71)
        replace F_b61_arg1 := F_b61_arg1.other W96 (Or.inl ne_b61_b71)
        replace F_b61_arg2 := F_b61_arg2.other W96 (Or.inl ne_b61_b71)
        replace F_b61_obj := F_b61_obj.other W96 (Or.inl ne_b61_b71)
        replace F_b61_asynchronous := F_b61_asynchronous.other W96 (Or.inl ne_b61_b71)
        replace F_b61_when := F_b61_when.other W96 (Or.inl ne_b61_b71)
        replace F_b61_callback := F_b61_callback.other W96 (Or.inl ne_b61_b71)
        replace E_b68 := E_b68.wr W96
        replace E_b71 := E_b71.wr W96
        replace F_b68_what := F_b68_what.other W96 (Or.inl ne_b68_b71)
        replace F_b68_arg1 := F_b68_arg1.other W96 (Or.inl ne_b68_b71)
        replace F_b68_arg2 := F_b68_arg2.other W96 (Or.inl ne_b68_b71)
        replace F_b68_obj := F_b68_obj.other W96 (Or.inl ne_b68_b71)
        replace F_b68_asynchronous := F_b68_asynchronous.other W96 (Or.inl ne_b68_b71)
        replace F_b68_when := F_b68_when.other W96 (Or.inl ne_b68_b71)
        replace F_b68_callback := F_b68_callback.other W96 (Or.inl ne_b68_b71)
        replace F_b71_what := F_b71_what.other W96 (Or.inr (sn_30 hw))
        replace F_b71_arg1 := F_b71_arg1.other W96 (Or.inr (sn_31 hw))
        replace F_b71_arg2 := F_b71_arg2.other W96 (Or.inr (sn_32 hw))
        replace F_b71_obj := F_b71_obj.other W96 (Or.inr (sn_33 hw))
        replace F_b71_asynchronous := F_b71_asynchronous.other W96 (Or.inr (sn_34 hw))
        replace F_b71_when := F_b71_when.same W96
        replace F_b71_callback := F_b71_callback.other W96 (Or.inr (sn_35 hw))
        replace Z0 := Nat.le_trans Z0 (Keep.of_wr W96).1
        replace NF := Fr.snoc X96 NF g_b71
        clear W96
        have hXN : ∃ LL, Stand p l e room_1 s m #[(.int p1), (.int p2), (.int p3), (.int p4), (.long q5), (.int p6)] below meth c T96 LL 4 43 ∧ Fr n0 LL := ⟨_, X96, NF⟩
        clear X96 NF
        obtain ⟨LL97, X96, NF⟩ := hXN
        show WP p.tables e below _ T96 (mkF m 201 #[.val (.int p1), .val (.int p2), .val (.int p3), .val (.int p4), .val (.long q5), .second, .val (.int p6), .val (.int (0 : Int32)), .val (.int sa), .val (.int da), .val (.ref r_59), .val (.ref b61), .val so, .val dob, .val (.ref b68), .val (.ref b71), .unset, .unset, .unset, .unset, .unset, .unset] [])
        refine WP.st (T' := T96) (f' := (mkF m 203 #[.val (.int p1), .val (.int p2), .val (.int p3), .val (.int p4), .val (.long q5), .second, .val (.int p6), .val (.int (0 : Int32)), .val (.int sa), .val (.int da), .val (.ref r_59), .val (.ref b61), .val so, .val dob, .val (.ref b68), .val (.ref b71), .unset, .unset, .unset, .unset, .unset, .unset] [(.ref b68)])) (fun t k => ?_) ?_
        · refine XS.aload X96.here hx rfl (hb hby at_201) rfl rfl ?_
          exact k
        obtain ⟨cq98, kq98, q98a, q98b, q98c⟩ := isOf hZ e96 E_b68
        obtain ⟨_, _, ⟨T98, L98, k98, n98⟩, -, X98, ⟨Lc98, hQ98, l98, y98, z98⟩, st98⟩ := X96.virtualBack hx (y := (⟨"com/example/hasten/hasten/Message", "getWhen", "()J"⟩ : MethodName)) (z := (⟨"com/example/hasten/hasten/Message", "getWhen", "()J"⟩ : MethodName)) hown (mvT hZ (w_45 hw)) (mvT hZ (w_46 hw)) (notFace_of_selects (args := #[]) (mvT hZ (w_48 hw))) (mvT hZ (w_48 hw)) (mvT hZ (w_47 hw)) (by decide) (backOf (W := 0) (rm7 l Z a0 hw [] b68 q5 h96 n0 Z0 F_b68_when) hZ (w_49 hw) (w_9 hw) (by decide) (by decide)) q98a q98c (g := (mkF m 203 #[.val (.int p1), .val (.int p2), .val (.int p3), .val (.int p4), .val (.long q5), .second, .val (.int p6), .val (.int (0 : Int32)), .val (.int sa), .val (.int da), .val (.ref r_59), .val (.ref b61), .val so, .val dob, .val (.ref b68), .val (.ref b71), .unset, .unset, .unset, .unset, .unset, .unset] [(.ref b68)])) rfl (by rw [hml]; rfl) (Steps.refl _) (argsL := []) (rest := []) (lenOf pd_5 rfl) rfl (by show 2 * 0 + _ ≤ _; exact Nat.le_of_eq rfl) (hb hby at_203) (fun _ _ => ⟨rfl, e96, (by decide : 4 + 0 ≤ _), (by decide : 43 + 0 ≤ _)⟩)
        dsimp only [Pt.U, Pt.locs, Pt.cells, Pt.slots] at X98 l98 y98 z98 st98 hQ98
        subst l98 y98 z98
        obtain ⟨rfl, Nq98, Kq98⟩ := hQ98
        replace NF := Fr.app NF Nq98
        clear Nq98
        refine WP.tr st98 ?_
        clear st98
        replace Kq98 := Kq98.trans (rfl : h96 = h96)
        have hXN : ∃ LL, Stand p l e room_1 s m #[(.int p1), (.int p2), (.int p3), (.int p4), (.long q5), (.int p6)] below meth c T98 LL 4 43 ∧ Fr n0 LL := ⟨_, X98, NF⟩
        clear X98 NF
        obtain ⟨LL99, X98, NF⟩ := hXN
        show WP p.tables e below _ T98 (mkF m 206 #[.val (.int p1), .val (.int p2), .val (.int p3), .val (.int p4), .val (.long q5), .second, .val (.int p6), .val (.int (0 : Int32)), .val (.int sa), .val (.int da), .val (.ref r_59), .val (.ref b61), .val so, .val dob, .val (.ref b68), .val (.ref b71), .unset, .unset, .unset, .unset, .unset, .unset] [(.long q5)])
        refine WP.st (T' := T98) (f' := (mkF m 210 #[.val (.int p1), .val (.int p2), .val (.int p3), .val (.int p4), .val (.long q5), .second, .val (.int p6), .val (.int (0 : Int32)), .val (.int sa), .val (.int da), .val (.ref r_59), .val (.ref b61), .val so, .val dob, .val (.ref b68), .val (.ref b71), .val (.long q5), .second, .unset, .unset, .unset, .unset] [(.ref b71)])) (fun t k => ?_) ?_
        · refine XS.lstore X98.here hx rfl (hb hby at_206) rfl (l' := #[.val (.int p1), .val (.int p2), .val (.int p3), .val (.int p4), .val (.long q5), .second, .val (.int p6), .val (.int (0 : Int32)), .val (.int sa), .val (.int da), .val (.ref r_59), .val (.ref b61), .val so, .val dob, .val (.ref b68), .val (.ref b71), .val (.long q5), .second, .unset, .unset, .unset, .unset]) rfl ?_
          show Steps p.tables e below (T98.setTop (mkF m 208 #[.val (.int p1), .val (.int p2), .val (.int p3), .val (.int p4), .val (.long q5), .second, .val (.int p6), .val (.int (0 : Int32)), .val (.int sa), .val (.int da), .val (.ref r_59), .val (.ref b61), .val so, .val dob, .val (.ref b68), .val (.ref b71), .val (.long q5), .second, .unset, .unset, .unset, .unset] [])) t
          refine XS.aload X98.here hx rfl (hb hby at_208) rfl rfl ?_
          exact k
        obtain ⟨cq100, kq100, q100a, q100b, q100c⟩ := isOf hZ Kq98 E_b71
        obtain ⟨_, _, ⟨T100, L100, k100, n100⟩, -, X100, ⟨Lc100, hQ100, l100, y100, z100⟩, st100⟩ := X98.virtualBack hx (y := (⟨"com/example/hasten/hasten/Message", "getWhen", "()J"⟩ : MethodName)) (z := (⟨"com/example/hasten/hasten/Message", "getWhen", "()J"⟩ : MethodName)) hown (mvT hZ (w_45 hw)) (mvT hZ (w_46 hw)) (notFace_of_selects (args := #[]) (mvT hZ (w_48 hw))) (mvT hZ (w_48 hw)) (mvT hZ (w_47 hw)) (by decide) (backOf (W := 0) (rm7 l Z a0 hw [] b71 (q5 ^^^ (-1 : Int64)) h96 n0 Z0 F_b71_when) hZ (w_49 hw) (w_9 hw) (by decide) (by decide)) q100a q100c (g := (mkF m 210 #[.val (.int p1), .val (.int p2), .val (.int p3), .val (.int p4), .val (.long q5), .second, .val (.int p6), .val (.int (0 : Int32)), .val (.int sa), .val (.int da), .val (.ref r_59), .val (.ref b61), .val so, .val dob, .val (.ref b68), .val (.ref b71), .val (.long q5), .second, .unset, .unset, .unset, .unset] [(.ref b71)])) rfl (by rw [hml]; rfl) (Steps.refl _) (argsL := []) (rest := []) (lenOf pd_5 rfl) rfl (by show 2 * 0 + _ ≤ _; exact Nat.le_of_eq rfl) (hb hby at_210) (fun _ _ => ⟨rfl, Kq98, (by decide : 4 + 0 ≤ _), (by decide : 43 + 0 ≤ _)⟩)
        dsimp only [Pt.U, Pt.locs, Pt.cells, Pt.slots] at X100 l100 y100 z100 st100 hQ100
        subst l100 y100 z100
        obtain ⟨rfl, Nq100, Kq100⟩ := hQ100
        replace NF := Fr.app NF Nq100
        clear Nq100
        refine WP.tr st100 ?_
        clear st100
        replace Kq100 := Kq100.trans (rfl : h96 = h96)
        have hXN : ∃ LL, Stand p l e room_1 s m #[(.int p1), (.int p2), (.int p3), (.int p4), (.long q5), (.int p6)] below meth c T100 LL 4 43 ∧ Fr n0 LL := ⟨_, X100, NF⟩
        clear X100 NF
        obtain ⟨LL101, X100, NF⟩ := hXN
        show WP p.tables e below _ T100 (mkF m 213 #[.val (.int p1), .val (.int p2), .val (.int p3), .val (.int p4), .val (.long q5), .second, .val (.int p6), .val (.int (0 : Int32)), .val (.int sa), .val (.int da), .val (.ref r_59), .val (.ref b61), .val so, .val dob, .val (.ref b68), .val (.ref b71), .val (.long q5), .second, .unset, .unset, .unset, .unset] [(.long (q5 ^^^ (-1 : Int64)))])
        refine WP.st (T' := T100) (f' := (mkF m 219 #[.val (.int p1), .val (.int p2), .val (.int p3), .val (.int p4), .val (.long q5), .second, .val (.int p6), .val (.int (0 : Int32)), .val (.int sa), .val (.int da), .val (.ref r_59), .val (.ref b61), .val so, .val dob, .val (.ref b68), .val (.ref b71), .val (.long q5), .second, .val (.long (q5 ^^^ (-1 : Int64))), .second, .unset, .unset] [(.ref b71), (.ref b68)])) (fun t k => ?_) ?_
        · refine XS.lstore X100.here hx rfl (hb hby at_213) rfl (l' := #[.val (.int p1), .val (.int p2), .val (.int p3), .val (.int p4), .val (.long q5), .second, .val (.int p6), .val (.int (0 : Int32)), .val (.int sa), .val (.int da), .val (.ref r_59), .val (.ref b61), .val so, .val dob, .val (.ref b68), .val (.ref b71), .val (.long q5), .second, .val (.long (q5 ^^^ (-1 : Int64))), .second, .unset, .unset]) rfl ?_
          show Steps p.tables e below (T100.setTop (mkF m 215 #[.val (.int p1), .val (.int p2), .val (.int p3), .val (.int p4), .val (.long q5), .second, .val (.int p6), .val (.int (0 : Int32)), .val (.int sa), .val (.int da), .val (.ref r_59), .val (.ref b61), .val so, .val dob, .val (.ref b68), .val (.ref b71), .val (.long q5), .second, .val (.long (q5 ^^^ (-1 : Int64))), .second, .unset, .unset] [])) t
          refine XS.aload X100.here hx rfl (hb hby at_215) rfl rfl ?_
          show Steps p.tables e below (T100.setTop (mkF m 217 #[.val (.int p1), .val (.int p2), .val (.int p3), .val (.int p4), .val (.long q5), .second, .val (.int p6), .val (.int (0 : Int32)), .val (.int sa), .val (.int da), .val (.ref r_59), .val (.ref b61), .val so, .val dob, .val (.ref b68), .val (.ref b71), .val (.long q5), .second, .val (.long (q5 ^^^ (-1 : Int64))), .second, .unset, .unset] [(.ref b68)])) t
          refine XS.aload X100.here hx rfl (hb hby at_217) rfl rfl ?_
          exact k
        obtain ⟨cq102, kq102, q102a, q102b, q102c⟩ := isOf hZ Kq100 E_b68
        obtain ⟨_, _, ⟨T102, L102, k102, n102⟩, -, X102, ⟨Lc102, hQ102, l102, y102, z102⟩, st102⟩ := X100.virtualBack hx (y := (⟨"com/example/hasten/hasten/Message", "copyFrom", "(Lcom/example/hasten/hasten/Message;)V"⟩ : MethodName)) (z := (⟨"com/example/hasten/hasten/Message", "copyFrom", "(Lcom/example/hasten/hasten/Message;)V"⟩ : MethodName)) hown (mvT hZ (w_51 hw)) (mvT hZ (w_52 hw)) (notFace_of_selects (args := #[]) (mvT hZ (w_54 hw))) (mvT hZ (w_54 hw)) (mvT hZ (w_53 hw)) (by decide) (backOf (W := 0) (rm8two l Z a0 hw [] b68 b71 p4 (p4 ^^^ (-1 : Int32)) (p4 ^^^ p3) dob da q5 Value.null p1 p2 p3 so sa (q5 ^^^ (-1 : Int64)) Value.null h96 n0 Z0 E_b68 g_b68 F_b68_what F_b68_arg1 F_b68_arg2 F_b68_obj F_b68_asynchronous F_b68_when F_b68_callback F_b71_what F_b71_arg1 F_b71_arg2 F_b71_obj F_b71_asynchronous F_b71_when F_b71_callback (Ne.symm ne_b68_b71) (hsa : sa = 0 ∨ sa = 1) (hr_so : so.isRef = true)) hZ (w_55 hw) (w_9 hw) (by decide) (by decide)) q102a q102c (g := (mkF m 219 #[.val (.int p1), .val (.int p2), .val (.int p3), .val (.int p4), .val (.long q5), .second, .val (.int p6), .val (.int (0 : Int32)), .val (.int sa), .val (.int da), .val (.ref r_59), .val (.ref b61), .val so, .val dob, .val (.ref b68), .val (.ref b71), .val (.long q5), .second, .val (.long (q5 ^^^ (-1 : Int64))), .second, .unset, .unset] [(.ref b71), (.ref b68)])) rfl (by rw [hml]; rfl) (Steps.refl _) (argsL := [(.ref b71)]) (rest := []) (lenOf pd_6 rfl) rfl (by show 2 * 0 + _ ≤ _; exact Nat.le_of_eq rfl) (hb hby at_219) (fun _ _ => ⟨rfl, Kq100, (by decide : 4 + 0 ≤ _), (by decide : 43 + 0 ≤ _)⟩)
        dsimp only [Pt.U, Pt.locs, Pt.cells, Pt.slots] at X102 l102 y102 z102 st102 hQ102
        subst l102 y102 z102
        obtain ⟨rfl, Nq102, Kq102, nF102_b68_what, nF102_b68_arg1, nF102_b68_arg2, nF102_b68_obj, nF102_b68_asynchronous, nF102_b68_when, nF102_b68_callback⟩ := hQ102
        replace NF := Fr.app NF Nq102
        clear Nq102
        refine WP.tr st102 ?_
        clear st102
        obtain ⟨h102, e102⟩ : ∃ h, T102.heap = h := ⟨_, rfl⟩
        rw [e102] at Kq102 nF102_b68_what nF102_b68_arg1 nF102_b68_arg2 nF102_b68_obj nF102_b68_asynchronous nF102_b68_when nF102_b68_callback
        replace E_b61 := E_b61.keep Kq102
        replace F_b61_what := F_b61_what.keep Kq102 (by exact ninS ne_b61_b68 (nin0))
        replace F_b61_arg1 := F_b61_arg1.keep Kq102 (by exact ninS ne_b61_b68 (nin0))
        replace F_b61_arg2 := F_b61_arg2.keep Kq102 (by exact ninS ne_b61_b68 (nin0))
        replace F_b61_obj := F_b61_obj.keep Kq102 (by exact ninS ne_b61_b68 (nin0))
        replace F_b61_asynchronous := F_b61_asynchronous.keep Kq102 (by exact ninS ne_b61_b68 (nin0))
        replace F_b61_when := F_b61_when.keep Kq102 (by exact ninS ne_b61_b68 (nin0))
        replace F_b61_callback := F_b61_callback.keep Kq102 (by exact ninS ne_b61_b68 (nin0))
        replace E_b68 := E_b68.keep Kq102
        replace E_b71 := E_b71.keep Kq102
        clear F_b68_what
        clear F_b68_arg1
        clear F_b68_arg2
        clear F_b68_obj
        clear F_b68_asynchronous
        clear F_b68_when
        clear F_b68_callback
        replace F_b71_what := F_b71_what.keep Kq102 (by exact ninS (Ne.symm ne_b68_b71) (nin0))
        replace F_b71_arg1 := F_b71_arg1.keep Kq102 (by exact ninS (Ne.symm ne_b68_b71) (nin0))
        replace F_b71_arg2 := F_b71_arg2.keep Kq102 (by exact ninS (Ne.symm ne_b68_b71) (nin0))
        replace F_b71_obj := F_b71_obj.keep Kq102 (by exact ninS (Ne.symm ne_b68_b71) (nin0))
        replace F_b71_asynchronous := F_b71_asynchronous.keep Kq102 (by exact ninS (Ne.symm ne_b68_b71) (nin0))
        replace F_b71_when := F_b71_when.keep Kq102 (by exact ninS (Ne.symm ne_b68_b71) (nin0))
        replace F_b71_callback := F_b71_callback.keep Kq102 (by exact ninS (Ne.symm ne_b68_b71) (nin0))
        replace Z0 := Nat.le_trans Z0 Kq102.1
        clear Kq102
        have F_b68_what := nF102_b68_what
        clear nF102_b68_what
        have F_b68_arg1 := nF102_b68_arg1
        clear nF102_b68_arg1
        have F_b68_arg2 := nF102_b68_arg2
        clear nF102_b68_arg2
        have F_b68_obj := nF102_b68_obj
        clear nF102_b68_obj
        have F_b68_asynchronous := nF102_b68_asynchronous
        clear nF102_b68_asynchronous
        have F_b68_when := nF102_b68_when
        clear nF102_b68_when
        have F_b68_callback := nF102_b68_callback
        clear nF102_b68_callback
        have hXN : ∃ LL, Stand p l e room_1 s m #[(.int p1), (.int p2), (.int p3), (.int p4), (.long q5), (.int p6)] below meth c T102 LL 4 43 ∧ Fr n0 LL := ⟨_, X102, NF⟩
        clear X102 NF
        obtain ⟨LL103, X102, NF⟩ := hXN
        show WP p.tables e below _ T102 (mkF m 222 #[.val (.int p1), .val (.int p2), .val (.int p3), .val (.int p4), .val (.long q5), .second, .val (.int p6), .val (.int (0 : Int32)), .val (.int sa), .val (.int da), .val (.ref r_59), .val (.ref b61), .val so, .val dob, .val (.ref b68), .val (.ref b71), .val (.long q5), .second, .val (.long (q5 ^^^ (-1 : Int64))), .second, .unset, .unset] [])
        refine WP.st (T' := T102) (f' := (mkF m 224 #[.val (.int p1), .val (.int p2), .val (.int p3), .val (.int p4), .val (.long q5), .second, .val (.int p6), .val (.int (0 : Int32)), .val (.int sa), .val (.int da), .val (.ref r_59), .val (.ref b61), .val so, .val dob, .val (.ref b68), .val (.ref b71), .val (.long q5), .second, .val (.long (q5 ^^^ (-1 : Int64))), .second, .unset, .unset] [(.ref b68)])) (fun t k => ?_) ?_
        · refine XS.aload X102.here hx rfl (hb hby at_222) rfl rfl ?_
          exact k
        obtain ⟨T104, X104, e104, st104⟩ := getF X102 hx hZ hown (host := "") (Or.inl (w_25 hw)) Via.refl e102 F_b68_what (g := (mkF m 224 #[.val (.int p1), .val (.int p2), .val (.int p3), .val (.int p4), .val (.long q5), .second, .val (.int p6), .val (.int (0 : Int32)), .val (.int sa), .val (.int da), .val (.ref r_59), .val (.ref b61), .val so, .val dob, .val (.ref b68), .val (.ref b71), .val (.long q5), .second, .val (.long (q5 ^^^ (-1 : Int64))), .second, .unset, .unset] [(.ref b68)])) rfl rfl (hb hby at_224)
        refine WP.st st104 ?_
        clear st104
        show WP p.tables e below _ T104 (mkF m 227 #[.val (.int p1), .val (.int p2), .val (.int p3), .val (.int p4), .val (.long q5), .second, .val (.int p6), .val (.int (0 : Int32)), .val (.int sa), .val (.int da), .val (.ref r_59), .val (.ref b61), .val so, .val dob, .val (.ref b68), .val (.ref b71), .val (.long q5), .second, .val (.long (q5 ^^^ (-1 : Int64))), .second, .unset, .unset] [(.int p1)])
        refine WP.st (T' := T104) (f' := (mkF m 233 #[.val (.int p1), .val (.int p2), .val (.int p3), .val (.int p4), .val (.long q5), .second, .val (.int p6), .val (.int (0 : Int32)), .val (.int sa), .val (.int da), .val (.ref r_59), .val (.ref b61), .val so, .val dob, .val (.ref b68), .val (.ref b71), .val (.long q5), .second, .val (.long (q5 ^^^ (-1 : Int64))), .second, .unset, .unset] [(.ref b68)])) (fun t k => ?_) ?_
        · refine XS.iloadN X104.here hx rfl (hb hby at_227) rfl ?_
          show Steps p.tables e below (T104.setTop (mkF m 228 #[.val (.int p1), .val (.int p2), .val (.int p3), .val (.int p4), .val (.long q5), .second, .val (.int p6), .val (.int (0 : Int32)), .val (.int sa), .val (.int da), .val (.ref r_59), .val (.ref b61), .val so, .val dob, .val (.ref b68), .val (.ref b71), .val (.long q5), .second, .val (.long (q5 ^^^ (-1 : Int64))), .second, .unset, .unset] [(.int p1), (.int p1)])) t
          refine XS.icmpNo X104.here hx rfl (hb hby at_228) rfl (teq (rfl : p1 = p1)).2 ?_
          show Steps p.tables e below (T104.setTop (mkF m 231 #[.val (.int p1), .val (.int p2), .val (.int p3), .val (.int p4), .val (.long q5), .second, .val (.int p6), .val (.int (0 : Int32)), .val (.int sa), .val (.int da), .val (.ref r_59), .val (.ref b61), .val so, .val dob, .val (.ref b68), .val (.ref b71), .val (.long q5), .second, .val (.long (q5 ^^^ (-1 : Int64))), .second, .unset, .unset] [])) t
          refine XS.aload X104.here hx rfl (hb hby at_231) rfl rfl ?_
          exact k
        obtain ⟨T105, X105, e105, st105⟩ := getF X104 hx hZ hown (host := "") (Or.inl (w_27 hw)) Via.refl e104 F_b68_arg1 (g := (mkF m 233 #[.val (.int p1), .val (.int p2), .val (.int p3), .val (.int p4), .val (.long q5), .second, .val (.int p6), .val (.int (0 : Int32)), .val (.int sa), .val (.int da), .val (.ref r_59), .val (.ref b61), .val so, .val dob, .val (.ref b68), .val (.ref b71), .val (.long q5), .second, .val (.long (q5 ^^^ (-1 : Int64))), .second, .unset, .unset] [(.ref b68)])) rfl rfl (hb hby at_233)
        refine WP.st st105 ?_
        clear st105
        show WP p.tables e below _ T105 (mkF m 236 #[.val (.int p1), .val (.int p2), .val (.int p3), .val (.int p4), .val (.long q5), .second, .val (.int p6), .val (.int (0 : Int32)), .val (.int sa), .val (.int da), .val (.ref r_59), .val (.ref b61), .val so, .val dob, .val (.ref b68), .val (.ref b71), .val (.long q5), .second, .val (.long (q5 ^^^ (-1 : Int64))), .second, .unset, .unset] [(.int p2)])
        refine WP.st (T' := T105) (f' := (mkF m 242 #[.val (.int p1), .val (.int p2), .val (.int p3), .val (.int p4), .val (.long q5), .second, .val (.int p6), .val (.int (0 : Int32)), .val (.int sa), .val (.int da), .val (.ref r_59), .val (.ref b61), .val so, .val dob, .val (.ref b68), .val (.ref b71), .val (.long q5), .second, .val (.long (q5 ^^^ (-1 : Int64))), .second, .unset, .unset] [(.ref b68)])) (fun t k => ?_) ?_
        · refine XS.iloadN X105.here hx rfl (hb hby at_236) rfl ?_
          show Steps p.tables e below (T105.setTop (mkF m 237 #[.val (.int p1), .val (.int p2), .val (.int p3), .val (.int p4), .val (.long q5), .second, .val (.int p6), .val (.int (0 : Int32)), .val (.int sa), .val (.int da), .val (.ref r_59), .val (.ref b61), .val so, .val dob, .val (.ref b68), .val (.ref b71), .val (.long q5), .second, .val (.long (q5 ^^^ (-1 : Int64))), .second, .unset, .unset] [(.int p2), (.int p2)])) t
          refine XS.icmpNo X105.here hx rfl (hb hby at_237) rfl (teq (rfl : p2 = p2)).2 ?_
          show Steps p.tables e below (T105.setTop (mkF m 240 #[.val (.int p1), .val (.int p2), .val (.int p3), .val (.int p4), .val (.long q5), .second, .val (.int p6), .val (.int (0 : Int32)), .val (.int sa), .val (.int da), .val (.ref r_59), .val (.ref b61), .val so, .val dob, .val (.ref b68), .val (.ref b71), .val (.long q5), .second, .val (.long (q5 ^^^ (-1 : Int64))), .second, .unset, .unset] [])) t
          refine XS.aload X105.here hx rfl (hb hby at_240) rfl rfl ?_
          exact k
        obtain ⟨T106, X106, e106, st106⟩ := getF X105 hx hZ hown (host := "") (Or.inl (w_29 hw)) Via.refl e105 F_b68_arg2 (g := (mkF m 242 #[.val (.int p1), .val (.int p2), .val (.int p3), .val (.int p4), .val (.long q5), .second, .val (.int p6), .val (.int (0 : Int32)), .val (.int sa), .val (.int da), .val (.ref r_59), .val (.ref b61), .val so, .val dob, .val (.ref b68), .val (.ref b71), .val (.long q5), .second, .val (.long (q5 ^^^ (-1 : Int64))), .second, .unset, .unset] [(.ref b68)])) rfl rfl (hb hby at_242)
        refine WP.st st106 ?_
        clear st106
        show WP p.tables e below _ T106 (mkF m 245 #[.val (.int p1), .val (.int p2), .val (.int p3), .val (.int p4), .val (.long q5), .second, .val (.int p6), .val (.int (0 : Int32)), .val (.int sa), .val (.int da), .val (.ref r_59), .val (.ref b61), .val so, .val dob, .val (.ref b68), .val (.ref b71), .val (.long q5), .second, .val (.long (q5 ^^^ (-1 : Int64))), .second, .unset, .unset] [(.int p3)])
        refine WP.st (T' := T106) (f' := (mkF m 251 #[.val (.int p1), .val (.int p2), .val (.int p3), .val (.int p4), .val (.long q5), .second, .val (.int p6), .val (.int (0 : Int32)), .val (.int sa), .val (.int da), .val (.ref r_59), .val (.ref b61), .val so, .val dob, .val (.ref b68), .val (.ref b71), .val (.long q5), .second, .val (.long (q5 ^^^ (-1 : Int64))), .second, .unset, .unset] [(.ref b68)])) (fun t k => ?_) ?_
        · refine XS.iloadN X106.here hx rfl (hb hby at_245) rfl ?_
          show Steps p.tables e below (T106.setTop (mkF m 246 #[.val (.int p1), .val (.int p2), .val (.int p3), .val (.int p4), .val (.long q5), .second, .val (.int p6), .val (.int (0 : Int32)), .val (.int sa), .val (.int da), .val (.ref r_59), .val (.ref b61), .val so, .val dob, .val (.ref b68), .val (.ref b71), .val (.long q5), .second, .val (.long (q5 ^^^ (-1 : Int64))), .second, .unset, .unset] [(.int p3), (.int p3)])) t
          refine XS.icmpNo X106.here hx rfl (hb hby at_246) rfl (teq (rfl : p3 = p3)).2 ?_
          show Steps p.tables e below (T106.setTop (mkF m 249 #[.val (.int p1), .val (.int p2), .val (.int p3), .val (.int p4), .val (.long q5), .second, .val (.int p6), .val (.int (0 : Int32)), .val (.int sa), .val (.int da), .val (.ref r_59), .val (.ref b61), .val so, .val dob, .val (.ref b68), .val (.ref b71), .val (.long q5), .second, .val (.long (q5 ^^^ (-1 : Int64))), .second, .unset, .unset] [])) t
          refine XS.aload X106.here hx rfl (hb hby at_249) rfl rfl ?_
          exact k
        obtain ⟨T107, X107, e107, st107⟩ := getF X106 hx hZ hown (host := "") (Or.inl (w_31 hw)) Via.refl e106 F_b68_obj (g := (mkF m 251 #[.val (.int p1), .val (.int p2), .val (.int p3), .val (.int p4), .val (.long q5), .second, .val (.int p6), .val (.int (0 : Int32)), .val (.int sa), .val (.int da), .val (.ref r_59), .val (.ref b61), .val so, .val dob, .val (.ref b68), .val (.ref b71), .val (.long q5), .second, .val (.long (q5 ^^^ (-1 : Int64))), .second, .unset, .unset] [(.ref b68)])) rfl rfl (hb hby at_251)
        refine WP.st st107 ?_
        clear st107
        show WP p.tables e below _ T107 (mkF m 254 #[.val (.int p1), .val (.int p2), .val (.int p3), .val (.int p4), .val (.long q5), .second, .val (.int p6), .val (.int (0 : Int32)), .val (.int sa), .val (.int da), .val (.ref r_59), .val (.ref b61), .val so, .val dob, .val (.ref b68), .val (.ref b71), .val (.long q5), .second, .val (.long (q5 ^^^ (-1 : Int64))), .second, .unset, .unset] [so])
        refine WP.st (T' := T107) (f' := (mkF m 256 #[.val (.int p1), .val (.int p2), .val (.int p3), .val (.int p4), .val (.long q5), .second, .val (.int p6), .val (.int (0 : Int32)), .val (.int sa), .val (.int da), .val (.ref r_59), .val (.ref b61), .val so, .val dob, .val (.ref b68), .val (.ref b71), .val (.long q5), .second, .val (.long (q5 ^^^ (-1 : Int64))), .second, .unset, .unset] [so, so])) (fun t k => ?_) ?_
        · refine XS.aload X107.here hx rfl (hb hby at_254) rfl hr_so ?_
          exact k
        refine WP.st (T' := T107) (f' := (mkF m 261 #[.val (.int p1), .val (.int p2), .val (.int p3), .val (.int p4), .val (.long q5), .second, .val (.int p6), .val (.int (0 : Int32)), .val (.int sa), .val (.int da), .val (.ref r_59), .val (.ref b61), .val so, .val dob, .val (.ref b68), .val (.ref b71), .val (.long q5), .second, .val (.long (q5 ^^^ (-1 : Int64))), .second, .unset, .unset] [(.ref b68)])) (fun t k => ?_) ?_
        · refine Jvm.RoadKit.acmp (g := (mkF m 256 #[.val (.int p1), .val (.int p2), .val (.int p3), .val (.int p4), .val (.long q5), .second, .val (.int p6), .val (.int (0 : Int32)), .val (.int sa), .val (.int da), .val (.ref r_59), .val (.ref b61), .val so, .val dob, .val (.ref b68), .val (.ref b71), .val (.long q5), .second, .val (.long (q5 ^^^ (-1 : Int64))), .second, .unset, .unset] [so, so])) X107 hx rfl hr_so hr_so (pc0 := 256) (pc' := 259) (same := true) rfl (hb hby at_256) rfl (decide_eq_true rfl) (by decide) (by decide) ?_
          show Steps p.tables e below (T107.setTop (mkF m 259 #[.val (.int p1), .val (.int p2), .val (.int p3), .val (.int p4), .val (.long q5), .second, .val (.int p6), .val (.int (0 : Int32)), .val (.int sa), .val (.int da), .val (.ref r_59), .val (.ref b61), .val so, .val dob, .val (.ref b68), .val (.ref b71), .val (.long q5), .second, .val (.long (q5 ^^^ (-1 : Int64))), .second, .unset, .unset] [])) t
          refine XS.aload X107.here hx rfl (hb hby at_259) rfl rfl ?_
          exact k
        obtain ⟨cq108, kq108, q108a, q108b, q108c⟩ := isOf hZ e107 E_b68
        obtain ⟨_, _, ⟨T108, L108, k108, n108⟩, -, X108, ⟨Lc108, hQ108, l108, y108, z108⟩, st108⟩ := X107.virtualBack hx (y := (⟨"com/example/hasten/hasten/Message", "isAsynchronous", "()Z"⟩ : MethodName)) (z := (⟨"com/example/hasten/hasten/Message", "isAsynchronous", "()Z"⟩ : MethodName)) hown (mvT hZ (w_60 hw)) (mvT hZ (w_61 hw)) (notFace_of_selects (args := #[]) (mvT hZ (w_63 hw))) (mvT hZ (w_63 hw)) (mvT hZ (w_62 hw)) (by decide) (backOf (W := 0) (rm9 l Z a0 hw [] b68 sa h102 n0 Z0 F_b68_asynchronous) hZ (w_64 hw) (w_9 hw) (by decide) (by decide)) q108a q108c (g := (mkF m 261 #[.val (.int p1), .val (.int p2), .val (.int p3), .val (.int p4), .val (.long q5), .second, .val (.int p6), .val (.int (0 : Int32)), .val (.int sa), .val (.int da), .val (.ref r_59), .val (.ref b61), .val so, .val dob, .val (.ref b68), .val (.ref b71), .val (.long q5), .second, .val (.long (q5 ^^^ (-1 : Int64))), .second, .unset, .unset] [(.ref b68)])) rfl (by rw [hml]; rfl) (Steps.refl _) (argsL := []) (rest := []) (lenOf pd_7 rfl) rfl (by show 2 * 0 + _ ≤ _; exact Nat.le_of_eq rfl) (hb hby at_261) (fun _ _ => ⟨rfl, e107, (by decide : 4 + 0 ≤ _), (by decide : 43 + 0 ≤ _)⟩)
        dsimp only [Pt.U, Pt.locs, Pt.cells, Pt.slots] at X108 l108 y108 z108 st108 hQ108
        subst l108 y108 z108
        obtain ⟨rfl, Nq108, Kq108⟩ := hQ108
        replace NF := Fr.app NF Nq108
        clear Nq108
        refine WP.tr st108 ?_
        clear st108
        replace Kq108 := Kq108.trans (rfl : h102 = h102)
        have hXN : ∃ LL, Stand p l e room_1 s m #[(.int p1), (.int p2), (.int p3), (.int p4), (.long q5), (.int p6)] below meth c T108 LL 4 43 ∧ Fr n0 LL := ⟨_, X108, NF⟩
        clear X108 NF
        obtain ⟨LL109, X108, NF⟩ := hXN
        show WP p.tables e below _ T108 (mkF m 264 #[.val (.int p1), .val (.int p2), .val (.int p3), .val (.int p4), .val (.long q5), .second, .val (.int p6), .val (.int (0 : Int32)), .val (.int sa), .val (.int da), .val (.ref r_59), .val (.ref b61), .val so, .val dob, .val (.ref b68), .val (.ref b71), .val (.long q5), .second, .val (.long (q5 ^^^ (-1 : Int64))), .second, .unset, .unset] [(.int (nar .boolean sa))])
        refine WP.st (T' := T108) (f' := (mkF m 271 #[.val (.int p1), .val (.int p2), .val (.int p3), .val (.int p4), .val (.long q5), .second, .val (.int p6), .val (.int (0 : Int32)), .val (.int sa), .val (.int da), .val (.ref r_59), .val (.ref b61), .val so, .val dob, .val (.ref b68), .val (.ref b71), .val (.long q5), .second, .val (.long (q5 ^^^ (-1 : Int64))), .second, .unset, .unset] [(.ref b68)])) (fun t k => ?_) ?_
        · refine XS.iload X108.here hx rfl (hb hby at_264) rfl ?_
          show Steps p.tables e below (T108.setTop (mkF m 266 #[.val (.int p1), .val (.int p2), .val (.int p3), .val (.int p4), .val (.long q5), .second, .val (.int p6), .val (.int (0 : Int32)), .val (.int sa), .val (.int da), .val (.ref r_59), .val (.ref b61), .val so, .val dob, .val (.ref b68), .val (.ref b71), .val (.long q5), .second, .val (.long (q5 ^^^ (-1 : Int64))), .second, .unset, .unset] [(.int sa), (.int (nar .boolean sa))])) t
          refine XS.icmpNo X108.here hx rfl (hb hby at_266) rfl (teq (nar01 hsa)).2 ?_
          show Steps p.tables e below (T108.setTop (mkF m 269 #[.val (.int p1), .val (.int p2), .val (.int p3), .val (.int p4), .val (.long q5), .second, .val (.int p6), .val (.int (0 : Int32)), .val (.int sa), .val (.int da), .val (.ref r_59), .val (.ref b61), .val so, .val dob, .val (.ref b68), .val (.ref b71), .val (.long q5), .second, .val (.long (q5 ^^^ (-1 : Int64))), .second, .unset, .unset] [])) t
          refine XS.aload X108.here hx rfl (hb hby at_269) rfl rfl ?_
          exact k
        obtain ⟨cq110, kq110, q110a, q110b, q110c⟩ := isOf hZ Kq108 E_b68
        obtain ⟨_, _, ⟨T110, L110, k110, n110⟩, -, X110, ⟨Lc110, hQ110, l110, y110, z110⟩, st110⟩ := X108.virtualBack hx (y := (⟨"com/example/hasten/hasten/Message", "getWhen", "()J"⟩ : MethodName)) (z := (⟨"com/example/hasten/hasten/Message", "getWhen", "()J"⟩ : MethodName)) hown (mvT hZ (w_45 hw)) (mvT hZ (w_46 hw)) (notFace_of_selects (args := #[]) (mvT hZ (w_48 hw))) (mvT hZ (w_48 hw)) (mvT hZ (w_47 hw)) (by decide) (backOf (W := 0) (rm7 l Z a0 hw [] b68 q5 h102 n0 Z0 F_b68_when) hZ (w_49 hw) (w_9 hw) (by decide) (by decide)) q110a q110c (g := (mkF m 271 #[.val (.int p1), .val (.int p2), .val (.int p3), .val (.int p4), .val (.long q5), .second, .val (.int p6), .val (.int (0 : Int32)), .val (.int sa), .val (.int da), .val (.ref r_59), .val (.ref b61), .val so, .val dob, .val (.ref b68), .val (.ref b71), .val (.long q5), .second, .val (.long (q5 ^^^ (-1 : Int64))), .second, .unset, .unset] [(.ref b68)])) rfl (by rw [hml]; rfl) (Steps.refl _) (argsL := []) (rest := []) (lenOf pd_5 rfl) rfl (by show 2 * 0 + _ ≤ _; exact Nat.le_of_eq rfl) (hb hby at_271) (fun _ _ => ⟨rfl, Kq108, (by decide : 4 + 0 ≤ _), (by decide : 43 + 0 ≤ _)⟩)
        dsimp only [Pt.U, Pt.locs, Pt.cells, Pt.slots] at X110 l110 y110 z110 st110 hQ110
        subst l110 y110 z110
        obtain ⟨rfl, Nq110, Kq110⟩ := hQ110
        replace NF := Fr.app NF Nq110
        clear Nq110
        refine WP.tr st110 ?_
        clear st110
        replace Kq110 := Kq110.trans (rfl : h102 = h102)
        have hXN : ∃ LL, Stand p l e room_1 s m #[(.int p1), (.int p2), (.int p3), (.int p4), (.long q5), (.int p6)] below meth c T110 LL 4 43 ∧ Fr n0 LL := ⟨_, X110, NF⟩
        clear X110 NF
        obtain ⟨LL111, X110, NF⟩ := hXN
        show WP p.tables e below _ T110 (mkF m 274 #[.val (.int p1), .val (.int p2), .val (.int p3), .val (.int p4), .val (.long q5), .second, .val (.int p6), .val (.int (0 : Int32)), .val (.int sa), .val (.int da), .val (.ref r_59), .val (.ref b61), .val so, .val dob, .val (.ref b68), .val (.ref b71), .val (.long q5), .second, .val (.long (q5 ^^^ (-1 : Int64))), .second, .unset, .unset] [(.long q5)])
        refine WP.st (T' := T110) (f' := (mkF m 282 #[.val (.int p1), .val (.int p2), .val (.int p3), .val (.int p4), .val (.long q5), .second, .val (.int p6), .val (.int (0 : Int32)), .val (.int sa), .val (.int da), .val (.ref r_59), .val (.ref b61), .val so, .val dob, .val (.ref b68), .val (.ref b71), .val (.long q5), .second, .val (.long (q5 ^^^ (-1 : Int64))), .second, .unset, .unset] [(.ref b68)])) (fun t k => ?_) ?_
        · refine XS.lload X110.here hx rfl (hb hby at_274) rfl ?_
          show Steps p.tables e below (T110.setTop (mkF m 276 #[.val (.int p1), .val (.int p2), .val (.int p3), .val (.int p4), .val (.long q5), .second, .val (.int p6), .val (.int (0 : Int32)), .val (.int sa), .val (.int da), .val (.ref r_59), .val (.ref b61), .val so, .val dob, .val (.ref b68), .val (.ref b71), .val (.long q5), .second, .val (.long (q5 ^^^ (-1 : Int64))), .second, .unset, .unset] [(.long q5), (.long q5)])) t
          refine XS.lcmp X110.here hx rfl (hb hby at_276) rfl ?_
          show Steps p.tables e below (T110.setTop (mkF m 277 #[.val (.int p1), .val (.int p2), .val (.int p3), .val (.int p4), .val (.long q5), .second, .val (.int p6), .val (.int (0 : Int32)), .val (.int sa), .val (.int da), .val (.ref r_59), .val (.ref b61), .val so, .val dob, .val (.ref b68), .val (.ref b71), .val (.long q5), .second, .val (.long (q5 ^^^ (-1 : Int64))), .second, .unset, .unset] [(.int (lcmpW q5 q5))])) t
          refine XS.ifNo X110.here hx rfl (hb hby at_277) rfl ((if0 _ _).trans (teq ((lw_eq _ _).2 rfl)).2) ?_
          show Steps p.tables e below (T110.setTop (mkF m 280 #[.val (.int p1), .val (.int p2), .val (.int p3), .val (.int p4), .val (.long q5), .second, .val (.int p6), .val (.int (0 : Int32)), .val (.int sa), .val (.int da), .val (.ref r_59), .val (.ref b61), .val so, .val dob, .val (.ref b68), .val (.ref b71), .val (.long q5), .second, .val (.long (q5 ^^^ (-1 : Int64))), .second, .unset, .unset] [])) t
          refine XS.aload X110.here hx rfl (hb hby at_280) rfl rfl ?_
          exact k
        obtain ⟨cq112, kq112, q112a, q112b, q112c⟩ := isOf hZ Kq110 E_b68
        obtain ⟨_, _, ⟨T112, L112, k112, n112⟩, -, X112, ⟨Lc112, hQ112, l112, y112, z112⟩, st112⟩ := X110.virtualBack hx (y := (⟨"com/example/hasten/hasten/Message", "getCallback", "()Ljava/lang/Runnable;"⟩ : MethodName)) (z := (⟨"com/example/hasten/hasten/Message", "getCallback", "()Ljava/lang/Runnable;"⟩ : MethodName)) hown (mvT hZ (w_65 hw)) (mvT hZ (w_66 hw)) (notFace_of_selects (args := #[]) (mvT hZ (w_68 hw))) (mvT hZ (w_68 hw)) (mvT hZ (w_67 hw)) (by decide) (backOf (W := 0) (rm10 l Z a0 hw [] b68 h102 n0 Z0 F_b68_callback) hZ (w_69 hw) (w_9 hw) (by decide) (by decide)) q112a q112c (g := (mkF m 282 #[.val (.int p1), .val (.int p2), .val (.int p3), .val (.int p4), .val (.long q5), .second, .val (.int p6), .val (.int (0 : Int32)), .val (.int sa), .val (.int da), .val (.ref r_59), .val (.ref b61), .val so, .val dob, .val (.ref b68), .val (.ref b71), .val (.long q5), .second, .val (.long (q5 ^^^ (-1 : Int64))), .second, .unset, .unset] [(.ref b68)])) rfl (by rw [hml]; rfl) (Steps.refl _) (argsL := []) (rest := []) (lenOf pd_8 rfl) rfl (by show 2 * 0 + _ ≤ _; exact Nat.le_of_eq rfl) (hb hby at_282) (fun _ _ => ⟨rfl, Kq110, (by decide : 4 + 0 ≤ _), (by decide : 43 + 0 ≤ _)⟩)
        dsimp only [Pt.U, Pt.locs, Pt.cells, Pt.slots] at X112 l112 y112 z112 st112 hQ112
        subst l112 y112 z112
        obtain ⟨rfl, Nq112, Kq112⟩ := hQ112
        replace NF := Fr.app NF Nq112
        clear Nq112
        refine WP.tr st112 ?_
        clear st112
        replace Kq112 := Kq112.trans (rfl : h102 = h102)
        have hXN : ∃ LL, Stand p l e room_1 s m #[(.int p1), (.int p2), (.int p3), (.int p4), (.long q5), (.int p6)] below meth c T112 LL 4 43 ∧ Fr n0 LL := ⟨_, X112, NF⟩
        clear X112 NF
        obtain ⟨LL113, X112, NF⟩ := hXN
        show WP p.tables e below _ T112 (mkF m 285 #[.val (.int p1), .val (.int p2), .val (.int p3), .val (.int p4), .val (.long q5), .second, .val (.int p6), .val (.int (0 : Int32)), .val (.int sa), .val (.int da), .val (.ref r_59), .val (.ref b61), .val so, .val dob, .val (.ref b68), .val (.ref b71), .val (.long q5), .second, .val (.long (q5 ^^^ (-1 : Int64))), .second, .unset, .unset] [.null])
        refine WP.st (T' := T112) (f' := (mkF m 297 #[.val (.int p1), .val (.int p2), .val (.int p3), .val (.int p4), .val (.long q5), .second, .val (.int p6), .val (.int (0 : Int32)), .val (.int sa), .val (.int da), .val (.ref r_59), .val (.ref b61), .val so, .val dob, .val (.ref b68), .val (.ref b71), .val (.long q5), .second, .val (.long (q5 ^^^ (-1 : Int64))), .second, .val (.int (1 : Int32)), .unset] [(.ref b71)])) (fun t k => ?_) ?_
        · refine XS.ifnonnullNo X112.here hx rfl (hb hby at_285) rfl ?_
          show Steps p.tables e below (T112.setTop (mkF m 288 #[.val (.int p1), .val (.int p2), .val (.int p3), .val (.int p4), .val (.long q5), .second, .val (.int p6), .val (.int (0 : Int32)), .val (.int sa), .val (.int da), .val (.ref r_59), .val (.ref b61), .val so, .val dob, .val (.ref b68), .val (.ref b71), .val (.long q5), .second, .val (.long (q5 ^^^ (-1 : Int64))), .second, .unset, .unset] [])) t
          refine XS.iconst X112.here hx rfl (hb hby at_288) ?_
          show Steps p.tables e below (T112.setTop (mkF m 289 #[.val (.int p1), .val (.int p2), .val (.int p3), .val (.int p4), .val (.long q5), .second, .val (.int p6), .val (.int (0 : Int32)), .val (.int sa), .val (.int da), .val (.ref r_59), .val (.ref b61), .val so, .val dob, .val (.ref b68), .val (.ref b71), .val (.long q5), .second, .val (.long (q5 ^^^ (-1 : Int64))), .second, .unset, .unset] [(.int (1 : Int32))])) t
          refine XS.goto X112.here hx rfl (pc0 := 289) (pc' := 293) rfl (hb hby at_289) (by decide) (by decide) ?_
          show Steps p.tables e below (T112.setTop (mkF m 293 #[.val (.int p1), .val (.int p2), .val (.int p3), .val (.int p4), .val (.long q5), .second, .val (.int p6), .val (.int (0 : Int32)), .val (.int sa), .val (.int da), .val (.ref r_59), .val (.ref b61), .val so, .val dob, .val (.ref b68), .val (.ref b71), .val (.long q5), .second, .val (.long (q5 ^^^ (-1 : Int64))), .second, .unset, .unset] [(.int (1 : Int32))])) t
          refine XS.istore X112.here hx rfl (hb hby at_293) rfl (l' := #[.val (.int p1), .val (.int p2), .val (.int p3), .val (.int p4), .val (.long q5), .second, .val (.int p6), .val (.int (0 : Int32)), .val (.int sa), .val (.int da), .val (.ref r_59), .val (.ref b61), .val so, .val dob, .val (.ref b68), .val (.ref b71), .val (.long q5), .second, .val (.long (q5 ^^^ (-1 : Int64))), .second, .val (.int (1 : Int32)), .unset]) rfl ?_
          show Steps p.tables e below (T112.setTop (mkF m 295 #[.val (.int p1), .val (.int p2), .val (.int p3), .val (.int p4), .val (.long q5), .second, .val (.int p6), .val (.int (0 : Int32)), .val (.int sa), .val (.int da), .val (.ref r_59), .val (.ref b61), .val so, .val dob, .val (.ref b68), .val (.ref b71), .val (.long q5), .second, .val (.long (q5 ^^^ (-1 : Int64))), .second, .val (.int (1 : Int32)), .unset] [])) t
          refine XS.aload X112.here hx rfl (hb hby at_295) rfl rfl ?_
          exact k
        obtain ⟨T114, X114, e114, st114⟩ := getF X112 hx hZ hown (host := "") (Or.inl (w_25 hw)) Via.refl Kq112 F_b71_what (g := (mkF m 297 #[.val (.int p1), .val (.int p2), .val (.int p3), .val (.int p4), .val (.long q5), .second, .val (.int p6), .val (.int (0 : Int32)), .val (.int sa), .val (.int da), .val (.ref r_59), .val (.ref b61), .val so, .val dob, .val (.ref b68), .val (.ref b71), .val (.long q5), .second, .val (.long (q5 ^^^ (-1 : Int64))), .second, .val (.int (1 : Int32)), .unset] [(.ref b71)])) rfl rfl (hb hby at_297)
        refine WP.st st114 ?_
        clear st114
        show WP p.tables e below _ T114 (mkF m 300 #[.val (.int p1), .val (.int p2), .val (.int p3), .val (.int p4), .val (.long q5), .second, .val (.int p6), .val (.int (0 : Int32)), .val (.int sa), .val (.int da), .val (.ref r_59), .val (.ref b61), .val so, .val dob, .val (.ref b68), .val (.ref b71), .val (.long q5), .second, .val (.long (q5 ^^^ (-1 : Int64))), .second, .val (.int (1 : Int32)), .unset] [(.int p1)])
        refine WP.st (T' := T114) (f' := (mkF m 306 #[.val (.int p1), .val (.int p2), .val (.int p3), .val (.int p4), .val (.long q5), .second, .val (.int p6), .val (.int (0 : Int32)), .val (.int sa), .val (.int da), .val (.ref r_59), .val (.ref b61), .val so, .val dob, .val (.ref b68), .val (.ref b71), .val (.long q5), .second, .val (.long (q5 ^^^ (-1 : Int64))), .second, .val (.int (1 : Int32)), .unset] [(.ref b71)])) (fun t k => ?_) ?_
        · refine XS.iloadN X114.here hx rfl (hb hby at_300) rfl ?_
          show Steps p.tables e below (T114.setTop (mkF m 301 #[.val (.int p1), .val (.int p2), .val (.int p3), .val (.int p4), .val (.long q5), .second, .val (.int p6), .val (.int (0 : Int32)), .val (.int sa), .val (.int da), .val (.ref r_59), .val (.ref b61), .val so, .val dob, .val (.ref b68), .val (.ref b71), .val (.long q5), .second, .val (.long (q5 ^^^ (-1 : Int64))), .second, .val (.int (1 : Int32)), .unset] [(.int p1), (.int p1)])) t
          refine XS.icmpNo X114.here hx rfl (hb hby at_301) rfl (teq (rfl : p1 = p1)).2 ?_
          show Steps p.tables e below (T114.setTop (mkF m 304 #[.val (.int p1), .val (.int p2), .val (.int p3), .val (.int p4), .val (.long q5), .second, .val (.int p6), .val (.int (0 : Int32)), .val (.int sa), .val (.int da), .val (.ref r_59), .val (.ref b61), .val so, .val dob, .val (.ref b68), .val (.ref b71), .val (.long q5), .second, .val (.long (q5 ^^^ (-1 : Int64))), .second, .val (.int (1 : Int32)), .unset] [])) t
          refine XS.aload X114.here hx rfl (hb hby at_304) rfl rfl ?_
          exact k
        obtain ⟨T115, X115, e115, st115⟩ := getF X114 hx hZ hown (host := "") (Or.inl (w_27 hw)) Via.refl e114 F_b71_arg1 (g := (mkF m 306 #[.val (.int p1), .val (.int p2), .val (.int p3), .val (.int p4), .val (.long q5), .second, .val (.int p6), .val (.int (0 : Int32)), .val (.int sa), .val (.int da), .val (.ref r_59), .val (.ref b61), .val so, .val dob, .val (.ref b68), .val (.ref b71), .val (.long q5), .second, .val (.long (q5 ^^^ (-1 : Int64))), .second, .val (.int (1 : Int32)), .unset] [(.ref b71)])) rfl rfl (hb hby at_306)
        refine WP.st st115 ?_
        clear st115
        show WP p.tables e below _ T115 (mkF m 309 #[.val (.int p1), .val (.int p2), .val (.int p3), .val (.int p4), .val (.long q5), .second, .val (.int p6), .val (.int (0 : Int32)), .val (.int sa), .val (.int da), .val (.ref r_59), .val (.ref b61), .val so, .val dob, .val (.ref b68), .val (.ref b71), .val (.long q5), .second, .val (.long (q5 ^^^ (-1 : Int64))), .second, .val (.int (1 : Int32)), .unset] [(.int p2)])
        refine WP.st (T' := T115) (f' := (mkF m 315 #[.val (.int p1), .val (.int p2), .val (.int p3), .val (.int p4), .val (.long q5), .second, .val (.int p6), .val (.int (0 : Int32)), .val (.int sa), .val (.int da), .val (.ref r_59), .val (.ref b61), .val so, .val dob, .val (.ref b68), .val (.ref b71), .val (.long q5), .second, .val (.long (q5 ^^^ (-1 : Int64))), .second, .val (.int (1 : Int32)), .unset] [(.ref b71)])) (fun t k => ?_) ?_
        · refine XS.iloadN X115.here hx rfl (hb hby at_309) rfl ?_
          show Steps p.tables e below (T115.setTop (mkF m 310 #[.val (.int p1), .val (.int p2), .val (.int p3), .val (.int p4), .val (.long q5), .second, .val (.int p6), .val (.int (0 : Int32)), .val (.int sa), .val (.int da), .val (.ref r_59), .val (.ref b61), .val so, .val dob, .val (.ref b68), .val (.ref b71), .val (.long q5), .second, .val (.long (q5 ^^^ (-1 : Int64))), .second, .val (.int (1 : Int32)), .unset] [(.int p2), (.int p2)])) t
          refine XS.icmpNo X115.here hx rfl (hb hby at_310) rfl (teq (rfl : p2 = p2)).2 ?_
          show Steps p.tables e below (T115.setTop (mkF m 313 #[.val (.int p1), .val (.int p2), .val (.int p3), .val (.int p4), .val (.long q5), .second, .val (.int p6), .val (.int (0 : Int32)), .val (.int sa), .val (.int da), .val (.ref r_59), .val (.ref b61), .val so, .val dob, .val (.ref b68), .val (.ref b71), .val (.long q5), .second, .val (.long (q5 ^^^ (-1 : Int64))), .second, .val (.int (1 : Int32)), .unset] [])) t
          refine XS.aload X115.here hx rfl (hb hby at_313) rfl rfl ?_
          exact k
        obtain ⟨T116, X116, e116, st116⟩ := getF X115 hx hZ hown (host := "") (Or.inl (w_29 hw)) Via.refl e115 F_b71_arg2 (g := (mkF m 315 #[.val (.int p1), .val (.int p2), .val (.int p3), .val (.int p4), .val (.long q5), .second, .val (.int p6), .val (.int (0 : Int32)), .val (.int sa), .val (.int da), .val (.ref r_59), .val (.ref b61), .val so, .val dob, .val (.ref b68), .val (.ref b71), .val (.long q5), .second, .val (.long (q5 ^^^ (-1 : Int64))), .second, .val (.int (1 : Int32)), .unset] [(.ref b71)])) rfl rfl (hb hby at_315)
        refine WP.st st116 ?_
        clear st116
        show WP p.tables e below _ T116 (mkF m 318 #[.val (.int p1), .val (.int p2), .val (.int p3), .val (.int p4), .val (.long q5), .second, .val (.int p6), .val (.int (0 : Int32)), .val (.int sa), .val (.int da), .val (.ref r_59), .val (.ref b61), .val so, .val dob, .val (.ref b68), .val (.ref b71), .val (.long q5), .second, .val (.long (q5 ^^^ (-1 : Int64))), .second, .val (.int (1 : Int32)), .unset] [(.int p3)])
        refine WP.st (T' := T116) (f' := (mkF m 324 #[.val (.int p1), .val (.int p2), .val (.int p3), .val (.int p4), .val (.long q5), .second, .val (.int p6), .val (.int (0 : Int32)), .val (.int sa), .val (.int da), .val (.ref r_59), .val (.ref b61), .val so, .val dob, .val (.ref b68), .val (.ref b71), .val (.long q5), .second, .val (.long (q5 ^^^ (-1 : Int64))), .second, .val (.int (1 : Int32)), .unset] [(.ref b71)])) (fun t k => ?_) ?_
        · refine XS.iloadN X116.here hx rfl (hb hby at_318) rfl ?_
          show Steps p.tables e below (T116.setTop (mkF m 319 #[.val (.int p1), .val (.int p2), .val (.int p3), .val (.int p4), .val (.long q5), .second, .val (.int p6), .val (.int (0 : Int32)), .val (.int sa), .val (.int da), .val (.ref r_59), .val (.ref b61), .val so, .val dob, .val (.ref b68), .val (.ref b71), .val (.long q5), .second, .val (.long (q5 ^^^ (-1 : Int64))), .second, .val (.int (1 : Int32)), .unset] [(.int p3), (.int p3)])) t
          refine XS.icmpNo X116.here hx rfl (hb hby at_319) rfl (teq (rfl : p3 = p3)).2 ?_
          show Steps p.tables e below (T116.setTop (mkF m 322 #[.val (.int p1), .val (.int p2), .val (.int p3), .val (.int p4), .val (.long q5), .second, .val (.int p6), .val (.int (0 : Int32)), .val (.int sa), .val (.int da), .val (.ref r_59), .val (.ref b61), .val so, .val dob, .val (.ref b68), .val (.ref b71), .val (.long q5), .second, .val (.long (q5 ^^^ (-1 : Int64))), .second, .val (.int (1 : Int32)), .unset] [])) t
          refine XS.aload X116.here hx rfl (hb hby at_322) rfl rfl ?_
          exact k
        obtain ⟨T117, X117, e117, st117⟩ := getF X116 hx hZ hown (host := "") (Or.inl (w_31 hw)) Via.refl e116 F_b71_obj (g := (mkF m 324 #[.val (.int p1), .val (.int p2), .val (.int p3), .val (.int p4), .val (.long q5), .second, .val (.int p6), .val (.int (0 : Int32)), .val (.int sa), .val (.int da), .val (.ref r_59), .val (.ref b61), .val so, .val dob, .val (.ref b68), .val (.ref b71), .val (.long q5), .second, .val (.long (q5 ^^^ (-1 : Int64))), .second, .val (.int (1 : Int32)), .unset] [(.ref b71)])) rfl rfl (hb hby at_324)
        refine WP.st st117 ?_
        clear st117
        show WP p.tables e below _ T117 (mkF m 327 #[.val (.int p1), .val (.int p2), .val (.int p3), .val (.int p4), .val (.long q5), .second, .val (.int p6), .val (.int (0 : Int32)), .val (.int sa), .val (.int da), .val (.ref r_59), .val (.ref b61), .val so, .val dob, .val (.ref b68), .val (.ref b71), .val (.long q5), .second, .val (.long (q5 ^^^ (-1 : Int64))), .second, .val (.int (1 : Int32)), .unset] [so])
        refine WP.st (T' := T117) (f' := (mkF m 329 #[.val (.int p1), .val (.int p2), .val (.int p3), .val (.int p4), .val (.long q5), .second, .val (.int p6), .val (.int (0 : Int32)), .val (.int sa), .val (.int da), .val (.ref r_59), .val (.ref b61), .val so, .val dob, .val (.ref b68), .val (.ref b71), .val (.long q5), .second, .val (.long (q5 ^^^ (-1 : Int64))), .second, .val (.int (1 : Int32)), .unset] [so, so])) (fun t k => ?_) ?_
        · refine XS.aload X117.here hx rfl (hb hby at_327) rfl hr_so ?_
          exact k
        refine WP.st (T' := T117) (f' := (mkF m 334 #[.val (.int p1), .val (.int p2), .val (.int p3), .val (.int p4), .val (.long q5), .second, .val (.int p6), .val (.int (0 : Int32)), .val (.int sa), .val (.int da), .val (.ref r_59), .val (.ref b61), .val so, .val dob, .val (.ref b68), .val (.ref b71), .val (.long q5), .second, .val (.long (q5 ^^^ (-1 : Int64))), .second, .val (.int (1 : Int32)), .unset] [(.ref b71)])) (fun t k => ?_) ?_
        · refine Jvm.RoadKit.acmp (g := (mkF m 329 #[.val (.int p1), .val (.int p2), .val (.int p3), .val (.int p4), .val (.long q5), .second, .val (.int p6), .val (.int (0 : Int32)), .val (.int sa), .val (.int da), .val (.ref r_59), .val (.ref b61), .val so, .val dob, .val (.ref b68), .val (.ref b71), .val (.long q5), .second, .val (.long (q5 ^^^ (-1 : Int64))), .second, .val (.int (1 : Int32)), .unset] [so, so])) X117 hx rfl hr_so hr_so (pc0 := 329) (pc' := 332) (same := true) rfl (hb hby at_329) rfl (decide_eq_true rfl) (by decide) (by decide) ?_
          show Steps p.tables e below (T117.setTop (mkF m 332 #[.val (.int p1), .val (.int p2), .val (.int p3), .val (.int p4), .val (.long q5), .second, .val (.int p6), .val (.int (0 : Int32)), .val (.int sa), .val (.int da), .val (.ref r_59), .val (.ref b61), .val so, .val dob, .val (.ref b68), .val (.ref b71), .val (.long q5), .second, .val (.long (q5 ^^^ (-1 : Int64))), .second, .val (.int (1 : Int32)), .unset] [])) t
          refine XS.aload X117.here hx rfl (hb hby at_332) rfl rfl ?_
          exact k
        obtain ⟨cq118, kq118, q118a, q118b, q118c⟩ := isOf hZ e117 E_b71
        obtain ⟨_, _, ⟨T118, L118, k118, n118⟩, -, X118, ⟨Lc118, hQ118, l118, y118, z118⟩, st118⟩ := X117.virtualBack hx (y := (⟨"com/example/hasten/hasten/Message", "isAsynchronous", "()Z"⟩ : MethodName)) (z := (⟨"com/example/hasten/hasten/Message", "isAsynchronous", "()Z"⟩ : MethodName)) hown (mvT hZ (w_60 hw)) (mvT hZ (w_61 hw)) (notFace_of_selects (args := #[]) (mvT hZ (w_63 hw))) (mvT hZ (w_63 hw)) (mvT hZ (w_62 hw)) (by decide) (backOf (W := 0) (rm9 l Z a0 hw [] b71 sa h102 n0 Z0 F_b71_asynchronous) hZ (w_64 hw) (w_9 hw) (by decide) (by decide)) q118a q118c (g := (mkF m 334 #[.val (.int p1), .val (.int p2), .val (.int p3), .val (.int p4), .val (.long q5), .second, .val (.int p6), .val (.int (0 : Int32)), .val (.int sa), .val (.int da), .val (.ref r_59), .val (.ref b61), .val so, .val dob, .val (.ref b68), .val (.ref b71), .val (.long q5), .second, .val (.long (q5 ^^^ (-1 : Int64))), .second, .val (.int (1 : Int32)), .unset] [(.ref b71)])) rfl (by rw [hml]; rfl) (Steps.refl _) (argsL := []) (rest := []) (lenOf pd_7 rfl) rfl (by show 2 * 0 + _ ≤ _; exact Nat.le_of_eq rfl) (hb hby at_334) (fun _ _ => ⟨rfl, e117, (by decide : 4 + 0 ≤ _), (by decide : 43 + 0 ≤ _)⟩)
        dsimp only [Pt.U, Pt.locs, Pt.cells, Pt.slots] at X118 l118 y118 z118 st118 hQ118
        subst l118 y118 z118
        obtain ⟨rfl, Nq118, Kq118⟩ := hQ118
        replace NF := Fr.app NF Nq118
        clear Nq118
        refine WP.tr st118 ?_
        clear st118
        replace Kq118 := Kq118.trans (rfl : h102 = h102)
        have hXN : ∃ LL, Stand p l e room_1 s m #[(.int p1), (.int p2), (.int p3), (.int p4), (.long q5), (.int p6)] below meth c T118 LL 4 43 ∧ Fr n0 LL := ⟨_, X118, NF⟩
        clear X118 NF
        obtain ⟨LL119, X118, NF⟩ := hXN
        show WP p.tables e below _ T118 (mkF m 337 #[.val (.int p1), .val (.int p2), .val (.int p3), .val (.int p4), .val (.long q5), .second, .val (.int p6), .val (.int (0 : Int32)), .val (.int sa), .val (.int da), .val (.ref r_59), .val (.ref b61), .val so, .val dob, .val (.ref b68), .val (.ref b71), .val (.long q5), .second, .val (.long (q5 ^^^ (-1 : Int64))), .second, .val (.int (1 : Int32)), .unset] [(.int (nar .boolean sa))])
        refine WP.st (T' := T118) (f' := (mkF m 344 #[.val (.int p1), .val (.int p2), .val (.int p3), .val (.int p4), .val (.long q5), .second, .val (.int p6), .val (.int (0 : Int32)), .val (.int sa), .val (.int da), .val (.ref r_59), .val (.ref b61), .val so, .val dob, .val (.ref b68), .val (.ref b71), .val (.long q5), .second, .val (.long (q5 ^^^ (-1 : Int64))), .second, .val (.int (1 : Int32)), .unset] [(.ref b71)])) (fun t k => ?_) ?_
        · refine XS.iload X118.here hx rfl (hb hby at_337) rfl ?_
          show Steps p.tables e below (T118.setTop (mkF m 339 #[.val (.int p1), .val (.int p2), .val (.int p3), .val (.int p4), .val (.long q5), .second, .val (.int p6), .val (.int (0 : Int32)), .val (.int sa), .val (.int da), .val (.ref r_59), .val (.ref b61), .val so, .val dob, .val (.ref b68), .val (.ref b71), .val (.long q5), .second, .val (.long (q5 ^^^ (-1 : Int64))), .second, .val (.int (1 : Int32)), .unset] [(.int sa), (.int (nar .boolean sa))])) t
          refine XS.icmpNo X118.here hx rfl (hb hby at_339) rfl (teq (nar01 hsa)).2 ?_
          show Steps p.tables e below (T118.setTop (mkF m 342 #[.val (.int p1), .val (.int p2), .val (.int p3), .val (.int p4), .val (.long q5), .second, .val (.int p6), .val (.int (0 : Int32)), .val (.int sa), .val (.int da), .val (.ref r_59), .val (.ref b61), .val so, .val dob, .val (.ref b68), .val (.ref b71), .val (.long q5), .second, .val (.long (q5 ^^^ (-1 : Int64))), .second, .val (.int (1 : Int32)), .unset] [])) t
          refine XS.aload X118.here hx rfl (hb hby at_342) rfl rfl ?_
          exact k
        obtain ⟨cq120, kq120, q120a, q120b, q120c⟩ := isOf hZ Kq118 E_b71
        obtain ⟨_, _, ⟨T120, L120, k120, n120⟩, -, X120, ⟨Lc120, hQ120, l120, y120, z120⟩, st120⟩ := X118.virtualBack hx (y := (⟨"com/example/hasten/hasten/Message", "getWhen", "()J"⟩ : MethodName)) (z := (⟨"com/example/hasten/hasten/Message", "getWhen", "()J"⟩ : MethodName)) hown (mvT hZ (w_45 hw)) (mvT hZ (w_46 hw)) (notFace_of_selects (args := #[]) (mvT hZ (w_48 hw))) (mvT hZ (w_48 hw)) (mvT hZ (w_47 hw)) (by decide) (backOf (W := 0) (rm7 l Z a0 hw [] b71 (q5 ^^^ (-1 : Int64)) h102 n0 Z0 F_b71_when) hZ (w_49 hw) (w_9 hw) (by decide) (by decide)) q120a q120c (g := (mkF m 344 #[.val (.int p1), .val (.int p2), .val (.int p3), .val (.int p4), .val (.long q5), .second, .val (.int p6), .val (.int (0 : Int32)), .val (.int sa), .val (.int da), .val (.ref r_59), .val (.ref b61), .val so, .val dob, .val (.ref b68), .val (.ref b71), .val (.long q5), .second, .val (.long (q5 ^^^ (-1 : Int64))), .second, .val (.int (1 : Int32)), .unset] [(.ref b71)])) rfl (by rw [hml]; rfl) (Steps.refl _) (argsL := []) (rest := []) (lenOf pd_5 rfl) rfl (by show 2 * 0 + _ ≤ _; exact Nat.le_of_eq rfl) (hb hby at_344) (fun _ _ => ⟨rfl, Kq118, (by decide : 4 + 0 ≤ _), (by decide : 43 + 0 ≤ _)⟩)
        dsimp only [Pt.U, Pt.locs, Pt.cells, Pt.slots] at X120 l120 y120 z120 st120 hQ120
        subst l120 y120 z120
        obtain ⟨rfl, Nq120, Kq120⟩ := hQ120
        replace NF := Fr.app NF Nq120
        clear Nq120
        refine WP.tr st120 ?_
        clear st120
        replace Kq120 := Kq120.trans (rfl : h102 = h102)
        have hXN : ∃ LL, Stand p l e room_1 s m #[(.int p1), (.int p2), (.int p3), (.int p4), (.long q5), (.int p6)] below meth c T120 LL 4 43 ∧ Fr n0 LL := ⟨_, X120, NF⟩
        clear X120 NF
        obtain ⟨LL121, X120, NF⟩ := hXN
        show WP p.tables e below _ T120 (mkF m 347 #[.val (.int p1), .val (.int p2), .val (.int p3), .val (.int p4), .val (.long q5), .second, .val (.int p6), .val (.int (0 : Int32)), .val (.int sa), .val (.int da), .val (.ref r_59), .val (.ref b61), .val so, .val dob, .val (.ref b68), .val (.ref b71), .val (.long q5), .second, .val (.long (q5 ^^^ (-1 : Int64))), .second, .val (.int (1 : Int32)), .unset] [(.long (q5 ^^^ (-1 : Int64)))])
        refine WP.st (T' := T120) (f' := (mkF m 375 #[.val (.int p1), .val (.int p2), .val (.int p3), .val (.int p4), .val (.long q5), .second, .val (.int p6), .val (.int (0 : Int32)), .val (.int sa), .val (.int da), .val (.ref r_59), .val (.ref b61), .val so, .val dob, .val (.ref b68), .val (.ref b71), .val (.long q5), .second, .val (.long (q5 ^^^ (-1 : Int64))), .second, .val (.int (1 : Int32)), .val (.int (1 : Int32))] [(.int (1 : Int32))])) (fun t k => ?_) ?_
        · refine XS.lload X120.here hx rfl (hb hby at_347) rfl ?_
          show Steps p.tables e below (T120.setTop (mkF m 349 #[.val (.int p1), .val (.int p2), .val (.int p3), .val (.int p4), .val (.long q5), .second, .val (.int p6), .val (.int (0 : Int32)), .val (.int sa), .val (.int da), .val (.ref r_59), .val (.ref b61), .val so, .val dob, .val (.ref b68), .val (.ref b71), .val (.long q5), .second, .val (.long (q5 ^^^ (-1 : Int64))), .second, .val (.int (1 : Int32)), .unset] [(.long (q5 ^^^ (-1 : Int64))), (.long (q5 ^^^ (-1 : Int64)))])) t
          refine XS.lcmp X120.here hx rfl (hb hby at_349) rfl ?_
          show Steps p.tables e below (T120.setTop (mkF m 350 #[.val (.int p1), .val (.int p2), .val (.int p3), .val (.int p4), .val (.long q5), .second, .val (.int p6), .val (.int (0 : Int32)), .val (.int sa), .val (.int da), .val (.ref r_59), .val (.ref b61), .val so, .val dob, .val (.ref b68), .val (.ref b71), .val (.long q5), .second, .val (.long (q5 ^^^ (-1 : Int64))), .second, .val (.int (1 : Int32)), .unset] [(.int (lcmpW (q5 ^^^ (-1 : Int64)) (q5 ^^^ (-1 : Int64))))])) t
          refine XS.ifNo X120.here hx rfl (hb hby at_350) rfl ((if0 _ _).trans (teq ((lw_eq _ _).2 rfl)).2) ?_
          show Steps p.tables e below (T120.setTop (mkF m 353 #[.val (.int p1), .val (.int p2), .val (.int p3), .val (.int p4), .val (.long q5), .second, .val (.int p6), .val (.int (0 : Int32)), .val (.int sa), .val (.int da), .val (.ref r_59), .val (.ref b61), .val so, .val dob, .val (.ref b68), .val (.ref b71), .val (.long q5), .second, .val (.long (q5 ^^^ (-1 : Int64))), .second, .val (.int (1 : Int32)), .unset] [])) t
          refine XS.iconst X120.here hx rfl (hb hby at_353) ?_
          show Steps p.tables e below (T120.setTop (mkF m 354 #[.val (.int p1), .val (.int p2), .val (.int p3), .val (.int p4), .val (.long q5), .second, .val (.int p6), .val (.int (0 : Int32)), .val (.int sa), .val (.int da), .val (.ref r_59), .val (.ref b61), .val so, .val dob, .val (.ref b68), .val (.ref b71), .val (.long q5), .second, .val (.long (q5 ^^^ (-1 : Int64))), .second, .val (.int (1 : Int32)), .unset] [(.int (1 : Int32))])) t
          refine XS.goto X120.here hx rfl (pc0 := 354) (pc' := 358) rfl (hb hby at_354) (by decide) (by decide) ?_
          show Steps p.tables e below (T120.setTop (mkF m 358 #[.val (.int p1), .val (.int p2), .val (.int p3), .val (.int p4), .val (.long q5), .second, .val (.int p6), .val (.int (0 : Int32)), .val (.int sa), .val (.int da), .val (.ref r_59), .val (.ref b61), .val so, .val dob, .val (.ref b68), .val (.ref b71), .val (.long q5), .second, .val (.long (q5 ^^^ (-1 : Int64))), .second, .val (.int (1 : Int32)), .unset] [(.int (1 : Int32))])) t
          refine XS.istore X120.here hx rfl (hb hby at_358) rfl (l' := #[.val (.int p1), .val (.int p2), .val (.int p3), .val (.int p4), .val (.long q5), .second, .val (.int p6), .val (.int (0 : Int32)), .val (.int sa), .val (.int da), .val (.ref r_59), .val (.ref b61), .val so, .val dob, .val (.ref b68), .val (.ref b71), .val (.long q5), .second, .val (.long (q5 ^^^ (-1 : Int64))), .second, .val (.int (1 : Int32)), .val (.int (1 : Int32))]) rfl ?_
          show Steps p.tables e below (T120.setTop (mkF m 360 #[.val (.int p1), .val (.int p2), .val (.int p3), .val (.int p4), .val (.long q5), .second, .val (.int p6), .val (.int (0 : Int32)), .val (.int sa), .val (.int da), .val (.ref r_59), .val (.ref b61), .val so, .val dob, .val (.ref b68), .val (.ref b71), .val (.long q5), .second, .val (.long (q5 ^^^ (-1 : Int64))), .second, .val (.int (1 : Int32)), .val (.int (1 : Int32))] [])) t
          refine XS.iload X120.here hx rfl (hb hby at_360) rfl ?_
          show Steps p.tables e below (T120.setTop (mkF m 362 #[.val (.int p1), .val (.int p2), .val (.int p3), .val (.int p4), .val (.long q5), .second, .val (.int p6), .val (.int (0 : Int32)), .val (.int sa), .val (.int da), .val (.ref r_59), .val (.ref b61), .val so, .val dob, .val (.ref b68), .val (.ref b71), .val (.long q5), .second, .val (.long (q5 ^^^ (-1 : Int64))), .second, .val (.int (1 : Int32)), .val (.int (1 : Int32))] [(.int (1 : Int32))])) t
          refine XS.ifNo X120.here hx rfl (hb hby at_362) rfl ((if0 _ _).trans (feq (by decide : ¬ ((1 : Int32) = (0 : Int32)))).1) ?_
          show Steps p.tables e below (T120.setTop (mkF m 365 #[.val (.int p1), .val (.int p2), .val (.int p3), .val (.int p4), .val (.long q5), .second, .val (.int p6), .val (.int (0 : Int32)), .val (.int sa), .val (.int da), .val (.ref r_59), .val (.ref b61), .val so, .val dob, .val (.ref b68), .val (.ref b71), .val (.long q5), .second, .val (.long (q5 ^^^ (-1 : Int64))), .second, .val (.int (1 : Int32)), .val (.int (1 : Int32))] [])) t
          refine XS.iload X120.here hx rfl (hb hby at_365) rfl ?_
          show Steps p.tables e below (T120.setTop (mkF m 367 #[.val (.int p1), .val (.int p2), .val (.int p3), .val (.int p4), .val (.long q5), .second, .val (.int p6), .val (.int (0 : Int32)), .val (.int sa), .val (.int da), .val (.ref r_59), .val (.ref b61), .val so, .val dob, .val (.ref b68), .val (.ref b71), .val (.long q5), .second, .val (.long (q5 ^^^ (-1 : Int64))), .second, .val (.int (1 : Int32)), .val (.int (1 : Int32))] [(.int (1 : Int32))])) t
          refine XS.ifNo X120.here hx rfl (hb hby at_367) rfl ((if0 _ _).trans (feq (by decide : ¬ ((1 : Int32) = (0 : Int32)))).1) ?_
          show Steps p.tables e below (T120.setTop (mkF m 370 #[.val (.int p1), .val (.int p2), .val (.int p3), .val (.int p4), .val (.long q5), .second, .val (.int p6), .val (.int (0 : Int32)), .val (.int sa), .val (.int da), .val (.ref r_59), .val (.ref b61), .val so, .val dob, .val (.ref b68), .val (.ref b71), .val (.long q5), .second, .val (.long (q5 ^^^ (-1 : Int64))), .second, .val (.int (1 : Int32)), .val (.int (1 : Int32))] [])) t
          refine XS.iconst X120.here hx rfl (hb hby at_370) ?_
          show Steps p.tables e below (T120.setTop (mkF m 371 #[.val (.int p1), .val (.int p2), .val (.int p3), .val (.int p4), .val (.long q5), .second, .val (.int p6), .val (.int (0 : Int32)), .val (.int sa), .val (.int da), .val (.ref r_59), .val (.ref b61), .val so, .val dob, .val (.ref b68), .val (.ref b71), .val (.long q5), .second, .val (.long (q5 ^^^ (-1 : Int64))), .second, .val (.int (1 : Int32)), .val (.int (1 : Int32))] [(.int (1 : Int32))])) t
          refine XS.goto X120.here hx rfl (pc0 := 371) (pc' := 375) rfl (hb hby at_371) (by decide) (by decide) ?_
          exact k
        subst hG
        obtain ⟨fs, hr, hrun, hended, hW, hsame⟩ := X120.leave (v := some (.int (1 : Int32))) (fun h => by rw [Bd.returns] at h; cases h)
        refine WP.fin ⟨_, _, ?_, hrun, hended, _, _, rfl, ?_, ⟨_, rfl⟩, hW, hsame.mono (by decide) (by decide)⟩
        · exact retN X120 hx (t := .boolean) Bd.returns (by simp) (hb hby at_375) hr
        · show Q0 Z p1 p2 p3 p4 q5 p6 ca cl h0 n0 _ T120.heap _
          rw [Kq120]
          exact ⟨rfl, NF⟩
      refine WP.st (T' := Tj57) (f' := (mkF m 32 #[.val (.int p1), .val (.int p2), .val (.int p3), .val (.int p4), .val (.long q5), .second, .val (.int p6), .val (.int (0 : Int32)), .val (.int sa), .unset, .unset, .unset, .unset, .unset, .unset, .unset, .unset, .unset, .unset, .unset, .unset, .unset] [(.int (p6 &&& (4 : Int32)))])) (fun t k => ?_) ?_
      · refine XS.iload X57.here hx rfl (hb hby at_28) rfl ?_
        show Steps p.tables e below (Tj57.setTop (mkF m 30 #[.val (.int p1), .val (.int p2), .val (.int p3), .val (.int p4), .val (.long q5), .second, .val (.int p6), .val (.int (0 : Int32)), .val (.int sa), .unset, .unset, .unset, .unset, .unset, .unset, .unset, .unset, .unset, .unset, .unset, .unset, .unset] [(.int p6)])) t
        refine XS.iconst X57.here hx rfl (hb hby at_30) ?_
        show Steps p.tables e below (Tj57.setTop (mkF m 31 #[.val (.int p1), .val (.int p2), .val (.int p3), .val (.int p4), .val (.long q5), .second, .val (.int p6), .val (.int (0 : Int32)), .val (.int sa), .unset, .unset, .unset, .unset, .unset, .unset, .unset, .unset, .unset, .unset, .unset, .unset, .unset] [(.int (4 : Int32)), (.int p6)])) t
        refine XS.iand X57.here hx rfl (hb hby at_31) rfl ?_
        exact k
      by_cases hc122 : (p6 &&& (4 : Int32)) = (0 : Int32)
      · skip
        refine WP.st (T' := Tj57) (f' := (mkF m 40 #[.val (.int p1), .val (.int p2), .val (.int p3), .val (.int p4), .val (.long q5), .second, .val (.int p6), .val (.int (0 : Int32)), .val (.int sa), .unset, .unset, .unset, .unset, .unset, .unset, .unset, .unset, .unset, .unset, .unset, .unset, .unset] [(.int (0 : Int32))])) (fun t k => ?_) ?_
        · refine XS.ifYes X57.here hx rfl (pc0 := 32) (pc' := 39) rfl (hb hby at_32) rfl ((if0 _ _).trans (teq hc122).1) (by decide) (by decide) ?_
          show Steps p.tables e below (Tj57.setTop (mkF m 39 #[.val (.int p1), .val (.int p2), .val (.int p3), .val (.int p4), .val (.long q5), .second, .val (.int p6), .val (.int (0 : Int32)), .val (.int sa), .unset, .unset, .unset, .unset, .unset, .unset, .unset, .unset, .unset, .unset, .unset, .unset, .unset] [])) t
          refine XS.iconst X57.here hx rfl (hb hby at_39) ?_
          exact k
        exact J58 _ _  (0 : Int32) (ownWider X57 (by decide) (by decide)) ej57 NF  (by decide)
      · skip
        refine WP.st (T' := Tj57) (f' := (mkF m 40 #[.val (.int p1), .val (.int p2), .val (.int p3), .val (.int p4), .val (.long q5), .second, .val (.int p6), .val (.int (0 : Int32)), .val (.int sa), .unset, .unset, .unset, .unset, .unset, .unset, .unset, .unset, .unset, .unset, .unset, .unset, .unset] [(.int (1 : Int32))])) (fun t k => ?_) ?_
        · refine XS.ifNo X57.here hx rfl (hb hby at_32) rfl ((if0 _ _).trans (feq hc122).1) ?_
          show Steps p.tables e below (Tj57.setTop (mkF m 35 #[.val (.int p1), .val (.int p2), .val (.int p3), .val (.int p4), .val (.long q5), .second, .val (.int p6), .val (.int (0 : Int32)), .val (.int sa), .unset, .unset, .unset, .unset, .unset, .unset, .unset, .unset, .unset, .unset, .unset, .unset, .unset] [])) t
          refine XS.iconst X57.here hx rfl (hb hby at_35) ?_
          show Steps p.tables e below (Tj57.setTop (mkF m 36 #[.val (.int p1), .val (.int p2), .val (.int p3), .val (.int p4), .val (.long q5), .second, .val (.int p6), .val (.int (0 : Int32)), .val (.int sa), .unset, .unset, .unset, .unset, .unset, .unset, .unset, .unset, .unset, .unset, .unset, .unset, .unset] [(.int (1 : Int32))])) t
          refine XS.goto X57.here hx rfl (pc0 := 36) (pc' := 40) rfl (hb hby at_36) (by decide) (by decide) ?_
          exact k
        exact J58 _ _  (1 : Int32) (ownWider X57 (by decide) (by decide)) ej57 NF  (by decide)
    refine WP.st (T' := s₁) (f' := (mkF m 18 #[.val (.int p1), .val (.int p2), .val (.int p3), .val (.int p4), .val (.long q5), .second, .val (.int p6), .val (.int (0 : Int32)), .unset, .unset, .unset, .unset, .unset, .unset, .unset, .unset, .unset, .unset, .unset, .unset, .unset, .unset] [(.int (p6 &&& (2 : Int32)))])) (fun t k => ?_) ?_
    · refine XS.iload X0.here hx rfl (hb hby at_14) rfl ?_
      show Steps p.tables e below (s₁.setTop (mkF m 16 #[.val (.int p1), .val (.int p2), .val (.int p3), .val (.int p4), .val (.long q5), .second, .val (.int p6), .val (.int (0 : Int32)), .unset, .unset, .unset, .unset, .unset, .unset, .unset, .unset, .unset, .unset, .unset, .unset, .unset, .unset] [(.int p6)])) t
      refine XS.iconst X0.here hx rfl (hb hby at_16) ?_
      show Steps p.tables e below (s₁.setTop (mkF m 17 #[.val (.int p1), .val (.int p2), .val (.int p3), .val (.int p4), .val (.long q5), .second, .val (.int p6), .val (.int (0 : Int32)), .unset, .unset, .unset, .unset, .unset, .unset, .unset, .unset, .unset, .unset, .unset, .unset, .unset, .unset] [(.int (2 : Int32)), (.int p6)])) t
      refine XS.iand X0.here hx rfl (hb hby at_17) rfl ?_
      exact k
    by_cases hc123 : (p6 &&& (2 : Int32)) = (0 : Int32)
    · skip
      refine WP.st (T' := s₁) (f' := (mkF m 26 #[.val (.int p1), .val (.int p2), .val (.int p3), .val (.int p4), .val (.long q5), .second, .val (.int p6), .val (.int (0 : Int32)), .unset, .unset, .unset, .unset, .unset, .unset, .unset, .unset, .unset, .unset, .unset, .unset, .unset, .unset] [(.int (0 : Int32))])) (fun t k => ?_) ?_
      · refine XS.ifYes X0.here hx rfl (pc0 := 18) (pc' := 25) rfl (hb hby at_18) rfl ((if0 _ _).trans (teq hc123).1) (by decide) (by decide) ?_
        show Steps p.tables e below (s₁.setTop (mkF m 25 #[.val (.int p1), .val (.int p2), .val (.int p3), .val (.int p4), .val (.long q5), .second, .val (.int p6), .val (.int (0 : Int32)), .unset, .unset, .unset, .unset, .unset, .unset, .unset, .unset, .unset, .unset, .unset, .unset, .unset, .unset] [])) t
        refine XS.iconst X0.here hx rfl (hb hby at_25) ?_
        exact k
      exact J57 _ _  (0 : Int32) (ownWider X0 (by decide) (by decide)) e0 NF  (by decide)
    · skip
      refine WP.st (T' := s₁) (f' := (mkF m 26 #[.val (.int p1), .val (.int p2), .val (.int p3), .val (.int p4), .val (.long q5), .second, .val (.int p6), .val (.int (0 : Int32)), .unset, .unset, .unset, .unset, .unset, .unset, .unset, .unset, .unset, .unset, .unset, .unset, .unset, .unset] [(.int (1 : Int32))])) (fun t k => ?_) ?_
      · refine XS.ifNo X0.here hx rfl (hb hby at_18) rfl ((if0 _ _).trans (feq hc123).1) ?_
        show Steps p.tables e below (s₁.setTop (mkF m 21 #[.val (.int p1), .val (.int p2), .val (.int p3), .val (.int p4), .val (.long q5), .second, .val (.int p6), .val (.int (0 : Int32)), .unset, .unset, .unset, .unset, .unset, .unset, .unset, .unset, .unset, .unset, .unset, .unset, .unset, .unset] [])) t
        refine XS.iconst X0.here hx rfl (hb hby at_21) ?_
        show Steps p.tables e below (s₁.setTop (mkF m 22 #[.val (.int p1), .val (.int p2), .val (.int p3), .val (.int p4), .val (.long q5), .second, .val (.int p6), .val (.int (0 : Int32)), .unset, .unset, .unset, .unset, .unset, .unset, .unset, .unset, .unset, .unset, .unset, .unset, .unset, .unset] [(.int (1 : Int32))])) t
        refine XS.goto X0.here hx rfl (pc0 := 22) (pc' := 26) rfl (hb hby at_22) (by decide) (by decide) ?_
        exact k
      exact J57 _ _  (1 : Int32) (ownWider X0 (by decide) (by decide)) e0 NF  (by decide)
  · skip
    refine WP.st (T' := s₁) (f' := (mkF m 14 #[.val (.int p1), .val (.int p2), .val (.int p3), .val (.int p4), .val (.long q5), .second, .val (.int p6), .val (.int (1 : Int32)), .unset, .unset, .unset, .unset, .unset, .unset, .unset, .unset, .unset, .unset, .unset, .unset, .unset, .unset] [])) (fun t k => ?_) ?_
    · refine XS.ifNo X0.here hx rfl (hb hby at_4) rfl ((if0 _ _).trans (feq hc56).1) ?_
      show Steps p.tables e below (s₁.setTop (mkF m 7 #[.val (.int p1), .val (.int p2), .val (.int p3), .val (.int p4), .val (.long q5), .second, .val (.int p6), .unset, .unset, .unset, .unset, .unset, .unset, .unset, .unset, .unset, .unset, .unset, .unset, .unset, .unset, .unset] [])) t
      refine XS.iconst X0.here hx rfl (hb hby at_7) ?_
      show Steps p.tables e below (s₁.setTop (mkF m 8 #[.val (.int p1), .val (.int p2), .val (.int p3), .val (.int p4), .val (.long q5), .second, .val (.int p6), .unset, .unset, .unset, .unset, .unset, .unset, .unset, .unset, .unset, .unset, .unset, .unset, .unset, .unset, .unset] [(.int (1 : Int32))])) t
      refine XS.goto X0.here hx rfl (pc0 := 8) (pc' := 12) rfl (hb hby at_8) (by decide) (by decide) ?_
      show Steps p.tables e below (s₁.setTop (mkF m 12 #[.val (.int p1), .val (.int p2), .val (.int p3), .val (.int p4), .val (.long q5), .second, .val (.int p6), .unset, .unset, .unset, .unset, .unset, .unset, .unset, .unset, .unset, .unset, .unset, .unset, .unset, .unset, .unset] [(.int (1 : Int32))])) t
      refine XS.istore X0.here hx rfl (hb hby at_12) rfl (l' := #[.val (.int p1), .val (.int p2), .val (.int p3), .val (.int p4), .val (.long q5), .second, .val (.int p6), .val (.int (1 : Int32)), .unset, .unset, .unset, .unset, .unset, .unset, .unset, .unset, .unset, .unset, .unset, .unset, .unset, .unset]) rfl ?_
      exact k
    have J124 : ∀ (Tj124 : State) (Lj124 : List Loc)  (sa : Int32), Stand p l e room_1 s m #[(.int p1), (.int p2), (.int p3), (.int p4), (.long q5), (.int p6)] below meth c Tj124 Lj124 0 0 → Tj124.heap = h0 → Fr n0 Lj124 → (sa = 0 ∨ sa = 1) → WP p.tables e below G Tj124 (mkF m 26 #[.val (.int p1), .val (.int p2), .val (.int p3), .val (.int p4), .val (.long q5), .second, .val (.int p6), .val (.int (1 : Int32)), .unset, .unset, .unset, .unset, .unset, .unset, .unset, .unset, .unset, .unset, .unset, .unset, .unset, .unset] [(.int sa)]) := by
      clear NF
      intro Tj124 Lj124  sa X124 ej124 NF hsa
      refine WP.st (T' := Tj124) (f' := (mkF m 28 #[.val (.int p1), .val (.int p2), .val (.int p3), .val (.int p4), .val (.long q5), .second, .val (.int p6), .val (.int (1 : Int32)), .val (.int sa), .unset, .unset, .unset, .unset, .unset, .unset, .unset, .unset, .unset, .unset, .unset, .unset, .unset] [])) (fun t k => ?_) ?_
      · refine XS.istore X124.here hx rfl (hb hby at_26) rfl (l' := #[.val (.int p1), .val (.int p2), .val (.int p3), .val (.int p4), .val (.long q5), .second, .val (.int p6), .val (.int (1 : Int32)), .val (.int sa), .unset, .unset, .unset, .unset, .unset, .unset, .unset, .unset, .unset, .unset, .unset, .unset, .unset]) rfl ?_
        exact k
      have J125 : ∀ (Tj125 : State) (Lj125 : List Loc)  (da : Int32), Stand p l e room_1 s m #[(.int p1), (.int p2), (.int p3), (.int p4), (.long q5), (.int p6)] below meth c Tj125 Lj125 0 0 → Tj125.heap = h0 → Fr n0 Lj125 → (da = 0 ∨ da = 1) → WP p.tables e below G Tj125 (mkF m 40 #[.val (.int p1), .val (.int p2), .val (.int p3), .val (.int p4), .val (.long q5), .second, .val (.int p6), .val (.int (1 : Int32)), .val (.int sa), .unset, .unset, .unset, .unset, .unset, .unset, .unset, .unset, .unset, .unset, .unset, .unset, .unset] [(.int da)]) := by
        clear NF
        intro Tj125 Lj125  da X125 ej125 NF hda
        refine WP.st (T' := Tj125) (f' := (mkF m 43 #[.val (.int p1), .val (.int p2), .val (.int p3), .val (.int p4), .val (.long q5), .second, .val (.int p6), .val (.int (1 : Int32)), .val (.int sa), .val (.int da), .unset, .unset, .unset, .unset, .unset, .unset, .unset, .unset, .unset, .unset, .unset, .unset] [(.int p2)])) (fun t k => ?_) ?_
        · refine XS.istore X125.here hx rfl (hb hby at_40) rfl (l' := #[.val (.int p1), .val (.int p2), .val (.int p3), .val (.int p4), .val (.long q5), .second, .val (.int p6), .val (.int (1 : Int32)), .val (.int sa), .val (.int da), .unset, .unset, .unset, .unset, .unset, .unset, .unset, .unset, .unset, .unset, .unset, .unset]) rfl ?_
          show Steps p.tables e below (Tj125.setTop (mkF m 42 #[.val (.int p1), .val (.int p2), .val (.int p3), .val (.int p4), .val (.long q5), .second, .val (.int p6), .val (.int (1 : Int32)), .val (.int sa), .val (.int da), .unset, .unset, .unset, .unset, .unset, .unset, .unset, .unset, .unset, .unset, .unset, .unset] [])) t
          refine XS.iloadN X125.here hx rfl (hb hby at_42) rfl ?_
          exact k
        obtain ⟨_, _, ⟨T126, L126, k126, n126⟩, -, X126, ⟨Lc126, hQ126, l126, y126, z126⟩, st126⟩ := Jvm.LawKit.callS X125 hx (y := (⟨"java/lang/Integer", "valueOf", "(I)Ljava/lang/Integer;"⟩ : MethodName)) hown (mvT hZ (w_0 hw)) (mvT hZ (w_1 hw)) (mvT hZ (w_2 hw)) (mvT hZ (w_3 hw)) (by decide) (backOf (W := 0) (rm1 l Z a0 hw [] p2 ca cl h0 n0 Z0 U_java_lang_Integer_IntegerCache_high U_java_lang_Integer_IntegerCache_cache (hAr : Arr Z h0 ca cl (.object "java/lang/Integer")) (hsz : cl.slots.size = 256) (hel : ∀ j : Int32, ¬ (j < 0 ∨ cl.slots.size ≤ j.toNatClampNeg) → ∃ b : Addr, cl.slots[j.toNatClampNeg]? = some (.ref b))) hZ (w_3 hw) (w_2 hw) (by decide) (by decide)) (g := (mkF m 43 #[.val (.int p1), .val (.int p2), .val (.int p3), .val (.int p4), .val (.long q5), .second, .val (.int p6), .val (.int (1 : Int32)), .val (.int sa), .val (.int da), .unset, .unset, .unset, .unset, .unset, .unset, .unset, .unset, .unset, .unset, .unset, .unset] [(.int p2)])) rfl (by rw [hml]; rfl) (argsL := [(.int p2)]) (rest := []) (lenOf pd_2 rfl) rfl (by show 2 * 0 + _ ≤ _; exact Nat.le_of_eq rfl) (hb hby at_43) (fun _ _ => ⟨rfl, ej125, (by decide : 0 + 1 ≤ _), (by decide : 0 + 1 ≤ _)⟩)
        dsimp only [Pt.U, Pt.locs, Pt.cells, Pt.slots] at X126 l126 y126 z126 st126 hQ126
        subst l126 y126 z126
        obtain ⟨r_126, rfl, Nq126, Kq126⟩ := hQ126
        replace NF := Fr.app NF Nq126
        clear Nq126
        refine WP.st st126 ?_
        clear st126
        obtain ⟨h126, e126⟩ : ∃ h, T126.heap = h := ⟨_, rfl⟩
        rw [e126] at Kq126
        clear U_java_lang_Integer_IntegerCache_high
        clear U_java_lang_Integer_IntegerCache_cache
        replace Z0 := Nat.le_trans Z0 Kq126.1
        clear Kq126
        have hXN : ∃ LL, Stand p l e room_1 s m #[(.int p1), (.int p2), (.int p3), (.int p4), (.long q5), (.int p6)] below meth c T126 LL 1 1 ∧ Fr n0 LL := ⟨_, X126, NF⟩
        clear X126 NF
        obtain ⟨LL127, X126, NF⟩ := hXN
        show WP p.tables e below _ T126 (mkF m 46 #[.val (.int p1), .val (.int p2), .val (.int p3), .val (.int p4), .val (.long q5), .second, .val (.int p6), .val (.int (1 : Int32)), .val (.int sa), .val (.int da), .unset, .unset, .unset, .unset, .unset, .unset, .unset, .unset, .unset, .unset, .unset, .unset] [(.ref r_126)])
        refine WP.st (T' := T126) (f' := (mkF m 48 #[.val (.int p1), .val (.int p2), .val (.int p3), .val (.int p4), .val (.long q5), .second, .val (.int p6), .val (.int (1 : Int32)), .val (.int sa), .val (.int da), .val (.ref r_126), .unset, .unset, .unset, .unset, .unset, .unset, .unset, .unset, .unset, .unset, .unset] [])) (fun t k => ?_) ?_
        · refine XS.astore X126.here hx rfl (hb hby at_46) rfl rfl (l' := #[.val (.int p1), .val (.int p2), .val (.int p3), .val (.int p4), .val (.long q5), .second, .val (.int p6), .val (.int (1 : Int32)), .val (.int sa), .val (.int da), .val (.ref r_126), .unset, .unset, .unset, .unset, .unset, .unset, .unset, .unset, .unset, .unset, .unset]) rfl ?_
          exact k
        obtain ⟨T128, h128, X128, e128, E128, A128, D128, -, st128⟩ := newO X126 hx hZ hown (w_7 hw) (w_8 hw) (w_9 hw) e126 (g := (mkF m 48 #[.val (.int p1), .val (.int p2), .val (.int p3), .val (.int p4), .val (.long q5), .second, .val (.int p6), .val (.int (1 : Int32)), .val (.int sa), .val (.int da), .val (.ref r_126), .unset, .unset, .unset, .unset, .unset, .unset, .unset, .unset, .unset, .unset, .unset] [])) rfl (hb hby at_48) (by decide) (by decide)
        obtain ⟨b128, g128⟩ : ∃ z, z = h126.size := ⟨_, rfl⟩
        rw [← g128] at A128 D128 st128
        refine WP.st st128 ?_
        clear st128
        have g_b128 : n0 ≤ b128 := Nat.le_trans Z0 (Nat.le_of_eq g128.symm)
        replace Z0 := Nat.le_trans Z0 E128.1
        have E_b128 := A128
        have F_b128_what : Fld Z h128 b128 "com/example/hasten/hasten/Message" "what" "I" (.int (0 : Int32)) := D128 (Or.inl (w_26 hw)) (ty := .int) (by decide)
        have F_b128_arg1 : Fld Z h128 b128 "com/example/hasten/hasten/Message" "arg1" "I" (.int (0 : Int32)) := D128 (Or.inl (w_28 hw)) (ty := .int) (by decide)
        have F_b128_arg2 : Fld Z h128 b128 "com/example/hasten/hasten/Message" "arg2" "I" (.int (0 : Int32)) := D128 (Or.inl (w_30 hw)) (ty := .int) (by decide)
        have F_b128_obj : Fld Z h128 b128 "com/example/hasten/hasten/Message" "obj" "Ljava/lang/Object;" .null := D128 (Or.inl (w_32 hw)) (ty := (.object "java/lang/Object")) (by decide)
        have F_b128_asynchronous : Fld Z h128 b128 "com/example/hasten/hasten/Envelope" "asynchronous" "Z" (.int (0 : Int32)) := D128 (Or.inl (w_40 hw)) (ty := .boolean) (by decide)
        have F_b128_when : Fld Z h128 b128 "com/example/hasten/hasten/Envelope" "when" "J" (.long (0 : Int64)) := D128 (Or.inl (w_43 hw)) (ty := .long) (by decide)
        have F_b128_callback : Fld Z h128 b128 "com/example/hasten/hasten/Envelope" "callback" "Ljava/lang/Runnable;" .null := D128 (Or.inl (w_72 hw)) (ty := (.object "java/lang/Runnable")) (by decide)
        clear D128 A128
        show WP p.tables e below _ T128 (mkF m 51 #[.val (.int p1), .val (.int p2), .val (.int p3), .val (.int p4), .val (.long q5), .second, .val (.int p6), .val (.int (1 : Int32)), .val (.int sa), .val (.int da), .val (.ref r_126), .unset, .unset, .unset, .unset, .unset, .unset, .unset, .unset, .unset, .unset, .unset] [(.ref b128)])
        refine WP.st (T' := T128) (f' := (mkF m 52 #[.val (.int p1), .val (.int p2), .val (.int p3), .val (.int p4), .val (.long q5), .second, .val (.int p6), .val (.int (1 : Int32)), .val (.int sa), .val (.int da), .val (.ref r_126), .unset, .unset, .unset, .unset, .unset, .unset, .unset, .unset, .unset, .unset, .unset] [(.ref b128), (.ref b128)])) (fun t k => ?_) ?_
        · refine XS.dup X128.here hx rfl (hb hby at_51) rfl rfl ?_
          exact k
        obtain ⟨_, _, ⟨T129, L129, k129, n129⟩, -, X129, ⟨Lc129, hQ129, l129, y129, z129⟩, st129⟩ := X128.specialBack hx (y := (⟨"com/example/hasten/hasten/Message", "<init>", "()V"⟩ : MethodName)) rfl hown (mvT hZ (w_10 hw)) (mvT hZ (w_11 hw)) (mvT hZ (w_12 hw)) (by decide) (backOf (W := 1) (rm2 l Z a0 hw [] b128 h128 n0 Z0 ) hZ (w_12 hw) (w_9 hw) (by decide) (by decide)) (g := (mkF m 52 #[.val (.int p1), .val (.int p2), .val (.int p3), .val (.int p4), .val (.long q5), .second, .val (.int p6), .val (.int (1 : Int32)), .val (.int sa), .val (.int da), .val (.ref r_126), .unset, .unset, .unset, .unset, .unset, .unset, .unset, .unset, .unset, .unset, .unset] [(.ref b128), (.ref b128)])) rfl (by rw [hml]; rfl) (Steps.refl _) (a := b128) (argsL := []) (rest := [(.ref b128)]) (lenOf pd_0 rfl) rfl (by show 2 * 0 + _ ≤ _; exact Nat.le_of_eq rfl) (hb hby at_52) (fun _ _ => ⟨rfl, e128, (by decide : 2 + 0 ≤ _), (by decide : 15 + 0 ≤ _)⟩)
        dsimp only [Pt.U, Pt.locs, Pt.cells, Pt.slots] at X129 l129 y129 z129 st129 hQ129
        subst l129 y129 z129
        obtain ⟨rfl, Nq129, Kq129⟩ := hQ129
        replace NF := Fr.app NF Nq129
        clear Nq129
        refine WP.tr st129 ?_
        clear st129
        obtain ⟨h129, e129⟩ : ∃ h, T129.heap = h := ⟨_, rfl⟩
        rw [e129] at Kq129
        replace E_b128 := E_b128.keep Kq129
        replace F_b128_what := F_b128_what.keep Kq129 (by exact nin0)
        replace F_b128_arg1 := F_b128_arg1.keep Kq129 (by exact nin0)
        replace F_b128_arg2 := F_b128_arg2.keep Kq129 (by exact nin0)
        replace F_b128_obj := F_b128_obj.keep Kq129 (by exact nin0)
        replace F_b128_asynchronous := F_b128_asynchronous.keep Kq129 (by exact nin0)
        replace F_b128_when := F_b128_when.keep Kq129 (by exact nin0)
        replace F_b128_callback := F_b128_callback.keep Kq129 (by exact nin0)
        replace Z0 := Nat.le_trans Z0 Kq129.1
        clear Kq129
        have hXN : ∃ LL, Stand p l e room_1 s m #[(.int p1), (.int p2), (.int p3), (.int p4), (.long q5), (.int p6)] below meth c T129 LL 2 15 ∧ Fr n0 LL := ⟨_, X129, NF⟩
        clear X129 NF
        obtain ⟨LL130, X129, NF⟩ := hXN
        show WP p.tables e below _ T129 (mkF m 55 #[.val (.int p1), .val (.int p2), .val (.int p3), .val (.int p4), .val (.long q5), .second, .val (.int p6), .val (.int (1 : Int32)), .val (.int sa), .val (.int da), .val (.ref r_126), .unset, .unset, .unset, .unset, .unset, .unset, .unset, .unset, .unset, .unset, .unset] [(.ref b128)])
        refine WP.st (T' := T129) (f' := (mkF m 67 #[.val (.int p1), .val (.int p2), .val (.int p3), .val (.int p4), .val (.long q5), .second, .val (.int p6), .val (.int (1 : Int32)), .val (.int sa), .val (.int da), .val (.ref r_126), .val (.ref b128), .unset, .unset, .unset, .unset, .unset, .unset, .unset, .unset, .unset, .unset] [(.ref b128), (.ref r_126), (.int (((p6.toUInt32 >>> ((3 : Int32) &&& 31).toUInt32).toInt32) &&& (3 : Int32)))])) (fun t k => ?_) ?_
        · refine XS.astore X129.here hx rfl (hb hby at_55) rfl rfl (l' := #[.val (.int p1), .val (.int p2), .val (.int p3), .val (.int p4), .val (.long q5), .second, .val (.int p6), .val (.int (1 : Int32)), .val (.int sa), .val (.int da), .val (.ref r_126), .val (.ref b128), .unset, .unset, .unset, .unset, .unset, .unset, .unset, .unset, .unset, .unset]) rfl ?_
          show Steps p.tables e below (T129.setTop (mkF m 57 #[.val (.int p1), .val (.int p2), .val (.int p3), .val (.int p4), .val (.long q5), .second, .val (.int p6), .val (.int (1 : Int32)), .val (.int sa), .val (.int da), .val (.ref r_126), .val (.ref b128), .unset, .unset, .unset, .unset, .unset, .unset, .unset, .unset, .unset, .unset] [])) t
          refine XS.iload X129.here hx rfl (hb hby at_57) rfl ?_
          show Steps p.tables e below (T129.setTop (mkF m 59 #[.val (.int p1), .val (.int p2), .val (.int p3), .val (.int p4), .val (.long q5), .second, .val (.int p6), .val (.int (1 : Int32)), .val (.int sa), .val (.int da), .val (.ref r_126), .val (.ref b128), .unset, .unset, .unset, .unset, .unset, .unset, .unset, .unset, .unset, .unset] [(.int p6)])) t
          refine XS.iconst X129.here hx rfl (hb hby at_59) ?_
          show Steps p.tables e below (T129.setTop (mkF m 60 #[.val (.int p1), .val (.int p2), .val (.int p3), .val (.int p4), .val (.long q5), .second, .val (.int p6), .val (.int (1 : Int32)), .val (.int sa), .val (.int da), .val (.ref r_126), .val (.ref b128), .unset, .unset, .unset, .unset, .unset, .unset, .unset, .unset, .unset, .unset] [(.int (3 : Int32)), (.int p6)])) t
          refine XS.iushr X129.here hx rfl (hb hby at_60) rfl ?_
          show Steps p.tables e below (T129.setTop (mkF m 61 #[.val (.int p1), .val (.int p2), .val (.int p3), .val (.int p4), .val (.long q5), .second, .val (.int p6), .val (.int (1 : Int32)), .val (.int sa), .val (.int da), .val (.ref r_126), .val (.ref b128), .unset, .unset, .unset, .unset, .unset, .unset, .unset, .unset, .unset, .unset] [(.int ((p6.toUInt32 >>> ((3 : Int32) &&& 31).toUInt32).toInt32))])) t
          refine XS.iconst X129.here hx rfl (hb hby at_61) ?_
          show Steps p.tables e below (T129.setTop (mkF m 62 #[.val (.int p1), .val (.int p2), .val (.int p3), .val (.int p4), .val (.long q5), .second, .val (.int p6), .val (.int (1 : Int32)), .val (.int sa), .val (.int da), .val (.ref r_126), .val (.ref b128), .unset, .unset, .unset, .unset, .unset, .unset, .unset, .unset, .unset, .unset] [(.int (3 : Int32)), (.int ((p6.toUInt32 >>> ((3 : Int32) &&& 31).toUInt32).toInt32))])) t
          refine XS.iand X129.here hx rfl (hb hby at_62) rfl ?_
          show Steps p.tables e below (T129.setTop (mkF m 63 #[.val (.int p1), .val (.int p2), .val (.int p3), .val (.int p4), .val (.long q5), .second, .val (.int p6), .val (.int (1 : Int32)), .val (.int sa), .val (.int da), .val (.ref r_126), .val (.ref b128), .unset, .unset, .unset, .unset, .unset, .unset, .unset, .unset, .unset, .unset] [(.int (((p6.toUInt32 >>> ((3 : Int32) &&& 31).toUInt32).toInt32) &&& (3 : Int32)))])) t
          refine XS.aload X129.here hx rfl (hb hby at_63) rfl rfl ?_
          show Steps p.tables e below (T129.setTop (mkF m 65 #[.val (.int p1), .val (.int p2), .val (.int p3), .val (.int p4), .val (.long q5), .second, .val (.int p6), .val (.int (1 : Int32)), .val (.int sa), .val (.int da), .val (.ref r_126), .val (.ref b128), .unset, .unset, .unset, .unset, .unset, .unset, .unset, .unset, .unset, .unset] [(.ref r_126), (.int (((p6.toUInt32 >>> ((3 : Int32) &&& 31).toUInt32).toInt32) &&& (3 : Int32)))])) t
          refine XS.aload X129.here hx rfl (hb hby at_65) rfl rfl ?_
          exact k
        obtain ⟨_, _, ⟨T131, L131, k131, n131⟩, -, X131, ⟨Lc131, hQ131, l131, y131, z131⟩, st131⟩ := Jvm.LawKit.callS X129 hx (y := (⟨"com/example/hasten/hasten/MessageCopyFromPinLaw", "pick", "(ILjava/lang/Object;Ljava/lang/Object;)Ljava/lang/Object;"⟩ : MethodName)) hown (mvT hZ (w_21 hw)) (mvT hZ (w_22 hw)) (mvT hZ (w_23 hw)) (mvT hZ (w_24 hw)) (by decide) (backOf (W := 0) (rm5 l Z a0 hw [] (((p6.toUInt32 >>> ((3 : Int32) &&& 31).toUInt32).toInt32) &&& (3 : Int32)) r_126 b128 h129 n0 Z0 ) hZ (w_24 hw) (w_23 hw) (by decide) (by decide)) (g := (mkF m 67 #[.val (.int p1), .val (.int p2), .val (.int p3), .val (.int p4), .val (.long q5), .second, .val (.int p6), .val (.int (1 : Int32)), .val (.int sa), .val (.int da), .val (.ref r_126), .val (.ref b128), .unset, .unset, .unset, .unset, .unset, .unset, .unset, .unset, .unset, .unset] [(.ref b128), (.ref r_126), (.int (((p6.toUInt32 >>> ((3 : Int32) &&& 31).toUInt32).toInt32) &&& (3 : Int32)))])) rfl (by rw [hml]; rfl) (argsL := [(.int (((p6.toUInt32 >>> ((3 : Int32) &&& 31).toUInt32).toInt32) &&& (3 : Int32))), (.ref r_126), (.ref b128)]) (rest := []) (lenOf pd_3 rfl) rfl (by show 2 * 0 + _ ≤ _; exact Nat.le_of_eq rfl) (hb hby at_67) (fun _ _ => ⟨rfl, e129, (by decide : 2 + 0 ≤ _), (by decide : 15 + 0 ≤ _)⟩)
        dsimp only [Pt.U, Pt.locs, Pt.cells, Pt.slots] at X131 l131 y131 z131 st131 hQ131
        subst l131 y131 z131
        obtain ⟨rfl, Nq131, Kq131⟩ := hQ131
        replace NF := Fr.app NF Nq131
        clear Nq131
        refine WP.st st131 ?_
        clear st131
        replace Kq131 := Kq131.trans (rfl : h129 = h129)
        have hXN : ∃ LL, Stand p l e room_1 s m #[(.int p1), (.int p2), (.int p3), (.int p4), (.long q5), (.int p6)] below meth c T131 LL 2 15 ∧ Fr n0 LL := ⟨_, X131, NF⟩
        clear X131 NF
        obtain ⟨LL132, X131, NF⟩ := hXN
        show WP p.tables e below _ T131 (mkF m 70 #[.val (.int p1), .val (.int p2), .val (.int p3), .val (.int p4), .val (.long q5), .second, .val (.int p6), .val (.int (1 : Int32)), .val (.int sa), .val (.int da), .val (.ref r_126), .val (.ref b128), .unset, .unset, .unset, .unset, .unset, .unset, .unset, .unset, .unset, .unset] [(own_pick (((p6.toUInt32 >>> ((3 : Int32) &&& 31).toUInt32).toInt32) &&& (3 : Int32)) (.ref r_126) (.ref b128))])
        obtain ⟨so, e_so, hr_so⟩ : ∃ z : Value, (own_pick (((p6.toUInt32 >>> ((3 : Int32) &&& 31).toUInt32).toInt32) &&& (3 : Int32)) (.ref r_126) (.ref b128)) = z ∧ z.isRef = true := ⟨_, rfl, by unfold own_pick; (repeat' split) <;> rfl⟩
        rw [e_so]
        show WP p.tables e below _ T131 (mkF m 70 #[.val (.int p1), .val (.int p2), .val (.int p3), .val (.int p4), .val (.long q5), .second, .val (.int p6), .val (.int (1 : Int32)), .val (.int sa), .val (.int da), .val (.ref r_126), .val (.ref b128), .unset, .unset, .unset, .unset, .unset, .unset, .unset, .unset, .unset, .unset] [so])
        refine WP.st (T' := T131) (f' := (mkF m 82 #[.val (.int p1), .val (.int p2), .val (.int p3), .val (.int p4), .val (.long q5), .second, .val (.int p6), .val (.int (1 : Int32)), .val (.int sa), .val (.int da), .val (.ref r_126), .val (.ref b128), .val so, .unset, .unset, .unset, .unset, .unset, .unset, .unset, .unset, .unset] [(.ref b128), (.ref r_126), (.int (((p6.toUInt32 >>> ((5 : Int32) &&& 31).toUInt32).toInt32) &&& (3 : Int32)))])) (fun t k => ?_) ?_
        · refine XS.astore X131.here hx rfl (hb hby at_70) rfl hr_so (l' := #[.val (.int p1), .val (.int p2), .val (.int p3), .val (.int p4), .val (.long q5), .second, .val (.int p6), .val (.int (1 : Int32)), .val (.int sa), .val (.int da), .val (.ref r_126), .val (.ref b128), .val so, .unset, .unset, .unset, .unset, .unset, .unset, .unset, .unset, .unset]) (by rcases ref_cases hr_so with h | ⟨z, h⟩ <;> rw [h] <;> rfl) ?_
          show Steps p.tables e below (T131.setTop (mkF m 72 #[.val (.int p1), .val (.int p2), .val (.int p3), .val (.int p4), .val (.long q5), .second, .val (.int p6), .val (.int (1 : Int32)), .val (.int sa), .val (.int da), .val (.ref r_126), .val (.ref b128), .val so, .unset, .unset, .unset, .unset, .unset, .unset, .unset, .unset, .unset] [])) t
          refine XS.iload X131.here hx rfl (hb hby at_72) rfl ?_
          show Steps p.tables e below (T131.setTop (mkF m 74 #[.val (.int p1), .val (.int p2), .val (.int p3), .val (.int p4), .val (.long q5), .second, .val (.int p6), .val (.int (1 : Int32)), .val (.int sa), .val (.int da), .val (.ref r_126), .val (.ref b128), .val so, .unset, .unset, .unset, .unset, .unset, .unset, .unset, .unset, .unset] [(.int p6)])) t
          refine XS.iconst X131.here hx rfl (hb hby at_74) ?_
          show Steps p.tables e below (T131.setTop (mkF m 75 #[.val (.int p1), .val (.int p2), .val (.int p3), .val (.int p4), .val (.long q5), .second, .val (.int p6), .val (.int (1 : Int32)), .val (.int sa), .val (.int da), .val (.ref r_126), .val (.ref b128), .val so, .unset, .unset, .unset, .unset, .unset, .unset, .unset, .unset, .unset] [(.int (5 : Int32)), (.int p6)])) t
          refine XS.iushr X131.here hx rfl (hb hby at_75) rfl ?_
          show Steps p.tables e below (T131.setTop (mkF m 76 #[.val (.int p1), .val (.int p2), .val (.int p3), .val (.int p4), .val (.long q5), .second, .val (.int p6), .val (.int (1 : Int32)), .val (.int sa), .val (.int da), .val (.ref r_126), .val (.ref b128), .val so, .unset, .unset, .unset, .unset, .unset, .unset, .unset, .unset, .unset] [(.int ((p6.toUInt32 >>> ((5 : Int32) &&& 31).toUInt32).toInt32))])) t
          refine XS.iconst X131.here hx rfl (hb hby at_76) ?_
          show Steps p.tables e below (T131.setTop (mkF m 77 #[.val (.int p1), .val (.int p2), .val (.int p3), .val (.int p4), .val (.long q5), .second, .val (.int p6), .val (.int (1 : Int32)), .val (.int sa), .val (.int da), .val (.ref r_126), .val (.ref b128), .val so, .unset, .unset, .unset, .unset, .unset, .unset, .unset, .unset, .unset] [(.int (3 : Int32)), (.int ((p6.toUInt32 >>> ((5 : Int32) &&& 31).toUInt32).toInt32))])) t
          refine XS.iand X131.here hx rfl (hb hby at_77) rfl ?_
          show Steps p.tables e below (T131.setTop (mkF m 78 #[.val (.int p1), .val (.int p2), .val (.int p3), .val (.int p4), .val (.long q5), .second, .val (.int p6), .val (.int (1 : Int32)), .val (.int sa), .val (.int da), .val (.ref r_126), .val (.ref b128), .val so, .unset, .unset, .unset, .unset, .unset, .unset, .unset, .unset, .unset] [(.int (((p6.toUInt32 >>> ((5 : Int32) &&& 31).toUInt32).toInt32) &&& (3 : Int32)))])) t
          refine XS.aload X131.here hx rfl (hb hby at_78) rfl rfl ?_
          show Steps p.tables e below (T131.setTop (mkF m 80 #[.val (.int p1), .val (.int p2), .val (.int p3), .val (.int p4), .val (.long q5), .second, .val (.int p6), .val (.int (1 : Int32)), .val (.int sa), .val (.int da), .val (.ref r_126), .val (.ref b128), .val so, .unset, .unset, .unset, .unset, .unset, .unset, .unset, .unset, .unset] [(.ref r_126), (.int (((p6.toUInt32 >>> ((5 : Int32) &&& 31).toUInt32).toInt32) &&& (3 : Int32)))])) t
          refine XS.aload X131.here hx rfl (hb hby at_80) rfl rfl ?_
          exact k
        obtain ⟨_, _, ⟨T133, L133, k133, n133⟩, -, X133, ⟨Lc133, hQ133, l133, y133, z133⟩, st133⟩ := Jvm.LawKit.callS X131 hx (y := (⟨"com/example/hasten/hasten/MessageCopyFromPinLaw", "pick", "(ILjava/lang/Object;Ljava/lang/Object;)Ljava/lang/Object;"⟩ : MethodName)) hown (mvT hZ (w_21 hw)) (mvT hZ (w_22 hw)) (mvT hZ (w_23 hw)) (mvT hZ (w_24 hw)) (by decide) (backOf (W := 0) (rm5 l Z a0 hw [] (((p6.toUInt32 >>> ((5 : Int32) &&& 31).toUInt32).toInt32) &&& (3 : Int32)) r_126 b128 h129 n0 Z0 ) hZ (w_24 hw) (w_23 hw) (by decide) (by decide)) (g := (mkF m 82 #[.val (.int p1), .val (.int p2), .val (.int p3), .val (.int p4), .val (.long q5), .second, .val (.int p6), .val (.int (1 : Int32)), .val (.int sa), .val (.int da), .val (.ref r_126), .val (.ref b128), .val so, .unset, .unset, .unset, .unset, .unset, .unset, .unset, .unset, .unset] [(.ref b128), (.ref r_126), (.int (((p6.toUInt32 >>> ((5 : Int32) &&& 31).toUInt32).toInt32) &&& (3 : Int32)))])) rfl (by rw [hml]; rfl) (argsL := [(.int (((p6.toUInt32 >>> ((5 : Int32) &&& 31).toUInt32).toInt32) &&& (3 : Int32))), (.ref r_126), (.ref b128)]) (rest := []) (lenOf pd_3 rfl) rfl (by show 2 * 0 + _ ≤ _; exact Nat.le_of_eq rfl) (hb hby at_82) (fun _ _ => ⟨rfl, Kq131, (by decide : 2 + 0 ≤ _), (by decide : 15 + 0 ≤ _)⟩)
        dsimp only [Pt.U, Pt.locs, Pt.cells, Pt.slots] at X133 l133 y133 z133 st133 hQ133
        subst l133 y133 z133
        obtain ⟨rfl, Nq133, Kq133⟩ := hQ133
        replace NF := Fr.app NF Nq133
        clear Nq133
        refine WP.st st133 ?_
        clear st133
        replace Kq133 := Kq133.trans (rfl : h129 = h129)
        have hXN : ∃ LL, Stand p l e room_1 s m #[(.int p1), (.int p2), (.int p3), (.int p4), (.long q5), (.int p6)] below meth c T133 LL 2 15 ∧ Fr n0 LL := ⟨_, X133, NF⟩
        clear X133 NF
        obtain ⟨LL134, X133, NF⟩ := hXN
        show WP p.tables e below _ T133 (mkF m 85 #[.val (.int p1), .val (.int p2), .val (.int p3), .val (.int p4), .val (.long q5), .second, .val (.int p6), .val (.int (1 : Int32)), .val (.int sa), .val (.int da), .val (.ref r_126), .val (.ref b128), .val so, .unset, .unset, .unset, .unset, .unset, .unset, .unset, .unset, .unset] [(own_pick (((p6.toUInt32 >>> ((5 : Int32) &&& 31).toUInt32).toInt32) &&& (3 : Int32)) (.ref r_126) (.ref b128))])
        obtain ⟨dob, e_dob, hr_dob⟩ : ∃ z : Value, (own_pick (((p6.toUInt32 >>> ((5 : Int32) &&& 31).toUInt32).toInt32) &&& (3 : Int32)) (.ref r_126) (.ref b128)) = z ∧ z.isRef = true := ⟨_, rfl, by unfold own_pick; (repeat' split) <;> rfl⟩
        rw [e_dob]
        show WP p.tables e below _ T133 (mkF m 85 #[.val (.int p1), .val (.int p2), .val (.int p3), .val (.int p4), .val (.long q5), .second, .val (.int p6), .val (.int (1 : Int32)), .val (.int sa), .val (.int da), .val (.ref r_126), .val (.ref b128), .val so, .unset, .unset, .unset, .unset, .unset, .unset, .unset, .unset, .unset] [dob])
        refine WP.st (T' := T133) (f' := (mkF m 87 #[.val (.int p1), .val (.int p2), .val (.int p3), .val (.int p4), .val (.long q5), .second, .val (.int p6), .val (.int (1 : Int32)), .val (.int sa), .val (.int da), .val (.ref r_126), .val (.ref b128), .val so, .val dob, .unset, .unset, .unset, .unset, .unset, .unset, .unset, .unset] [])) (fun t k => ?_) ?_
        · refine XS.astore X133.here hx rfl (hb hby at_85) rfl hr_dob (l' := #[.val (.int p1), .val (.int p2), .val (.int p3), .val (.int p4), .val (.long q5), .second, .val (.int p6), .val (.int (1 : Int32)), .val (.int sa), .val (.int da), .val (.ref r_126), .val (.ref b128), .val so, .val dob, .unset, .unset, .unset, .unset, .unset, .unset, .unset, .unset]) (by rcases ref_cases hr_dob with h | ⟨z, h⟩ <;> rw [h] <;> rfl) ?_
          exact k
        obtain ⟨T135, h135, X135, e135, E135, A135, D135, -, st135⟩ := newO X133 hx hZ hown (w_7 hw) (w_8 hw) (w_9 hw) Kq133 (g := (mkF m 87 #[.val (.int p1), .val (.int p2), .val (.int p3), .val (.int p4), .val (.long q5), .second, .val (.int p6), .val (.int (1 : Int32)), .val (.int sa), .val (.int da), .val (.ref r_126), .val (.ref b128), .val so, .val dob, .unset, .unset, .unset, .unset, .unset, .unset, .unset, .unset] [])) rfl (hb hby at_87) (by decide) (by decide)
        obtain ⟨b135, g135⟩ : ∃ z, z = h129.size := ⟨_, rfl⟩
        rw [← g135] at A135 D135 st135
        refine WP.st st135 ?_
        clear st135
        have ne_b128_b135 : b128 ≠ b135 := Nat.ne_of_lt (Nat.lt_of_lt_of_le E_b128.lt (Nat.le_of_eq g135.symm))
        have g_b135 : n0 ≤ b135 := Nat.le_trans Z0 (Nat.le_of_eq g135.symm)
        replace E_b128 := E_b128.ext E135
        replace F_b128_what := F_b128_what.ext E135
        replace F_b128_arg1 := F_b128_arg1.ext E135
        replace F_b128_arg2 := F_b128_arg2.ext E135
        replace F_b128_obj := F_b128_obj.ext E135
        replace F_b128_asynchronous := F_b128_asynchronous.ext E135
        replace F_b128_when := F_b128_when.ext E135
        replace F_b128_callback := F_b128_callback.ext E135
        replace Z0 := Nat.le_trans Z0 E135.1
        have E_b135 := A135
        have F_b135_what : Fld Z h135 b135 "com/example/hasten/hasten/Message" "what" "I" (.int (0 : Int32)) := D135 (Or.inl (w_26 hw)) (ty := .int) (by decide)
        have F_b135_arg1 : Fld Z h135 b135 "com/example/hasten/hasten/Message" "arg1" "I" (.int (0 : Int32)) := D135 (Or.inl (w_28 hw)) (ty := .int) (by decide)
        have F_b135_arg2 : Fld Z h135 b135 "com/example/hasten/hasten/Message" "arg2" "I" (.int (0 : Int32)) := D135 (Or.inl (w_30 hw)) (ty := .int) (by decide)
        have F_b135_obj : Fld Z h135 b135 "com/example/hasten/hasten/Message" "obj" "Ljava/lang/Object;" .null := D135 (Or.inl (w_32 hw)) (ty := (.object "java/lang/Object")) (by decide)
        have F_b135_asynchronous : Fld Z h135 b135 "com/example/hasten/hasten/Envelope" "asynchronous" "Z" (.int (0 : Int32)) := D135 (Or.inl (w_40 hw)) (ty := .boolean) (by decide)
        have F_b135_when : Fld Z h135 b135 "com/example/hasten/hasten/Envelope" "when" "J" (.long (0 : Int64)) := D135 (Or.inl (w_43 hw)) (ty := .long) (by decide)
        have F_b135_callback : Fld Z h135 b135 "com/example/hasten/hasten/Envelope" "callback" "Ljava/lang/Runnable;" .null := D135 (Or.inl (w_72 hw)) (ty := (.object "java/lang/Runnable")) (by decide)
        clear D135 A135
        show WP p.tables e below _ T135 (mkF m 90 #[.val (.int p1), .val (.int p2), .val (.int p3), .val (.int p4), .val (.long q5), .second, .val (.int p6), .val (.int (1 : Int32)), .val (.int sa), .val (.int da), .val (.ref r_126), .val (.ref b128), .val so, .val dob, .unset, .unset, .unset, .unset, .unset, .unset, .unset, .unset] [(.ref b135)])
        refine WP.st (T' := T135) (f' := (mkF m 91 #[.val (.int p1), .val (.int p2), .val (.int p3), .val (.int p4), .val (.long q5), .second, .val (.int p6), .val (.int (1 : Int32)), .val (.int sa), .val (.int da), .val (.ref r_126), .val (.ref b128), .val so, .val dob, .unset, .unset, .unset, .unset, .unset, .unset, .unset, .unset] [(.ref b135), (.ref b135)])) (fun t k => ?_) ?_
        · refine XS.dup X135.here hx rfl (hb hby at_90) rfl rfl ?_
          exact k
        obtain ⟨_, _, ⟨T136, L136, k136, n136⟩, -, X136, ⟨Lc136, hQ136, l136, y136, z136⟩, st136⟩ := X135.specialBack hx (y := (⟨"com/example/hasten/hasten/Message", "<init>", "()V"⟩ : MethodName)) rfl hown (mvT hZ (w_10 hw)) (mvT hZ (w_11 hw)) (mvT hZ (w_12 hw)) (by decide) (backOf (W := 1) (rm2 l Z a0 hw [] b135 h135 n0 Z0 ) hZ (w_12 hw) (w_9 hw) (by decide) (by decide)) (g := (mkF m 91 #[.val (.int p1), .val (.int p2), .val (.int p3), .val (.int p4), .val (.long q5), .second, .val (.int p6), .val (.int (1 : Int32)), .val (.int sa), .val (.int da), .val (.ref r_126), .val (.ref b128), .val so, .val dob, .unset, .unset, .unset, .unset, .unset, .unset, .unset, .unset] [(.ref b135), (.ref b135)])) rfl (by rw [hml]; rfl) (Steps.refl _) (a := b135) (argsL := []) (rest := [(.ref b135)]) (lenOf pd_0 rfl) rfl (by show 2 * 0 + _ ≤ _; exact Nat.le_of_eq rfl) (hb hby at_91) (fun _ _ => ⟨rfl, e135, (by decide : 3 + 0 ≤ _), (by decide : 29 + 0 ≤ _)⟩)
        dsimp only [Pt.U, Pt.locs, Pt.cells, Pt.slots] at X136 l136 y136 z136 st136 hQ136
        subst l136 y136 z136
        obtain ⟨rfl, Nq136, Kq136⟩ := hQ136
        replace NF := Fr.app NF Nq136
        clear Nq136
        refine WP.tr st136 ?_
        clear st136
        obtain ⟨h136, e136⟩ : ∃ h, T136.heap = h := ⟨_, rfl⟩
        rw [e136] at Kq136
        replace E_b128 := E_b128.keep Kq136
        replace F_b128_what := F_b128_what.keep Kq136 (by exact nin0)
        replace F_b128_arg1 := F_b128_arg1.keep Kq136 (by exact nin0)
        replace F_b128_arg2 := F_b128_arg2.keep Kq136 (by exact nin0)
        replace F_b128_obj := F_b128_obj.keep Kq136 (by exact nin0)
        replace F_b128_asynchronous := F_b128_asynchronous.keep Kq136 (by exact nin0)
        replace F_b128_when := F_b128_when.keep Kq136 (by exact nin0)
        replace F_b128_callback := F_b128_callback.keep Kq136 (by exact nin0)
        replace E_b135 := E_b135.keep Kq136
        replace F_b135_what := F_b135_what.keep Kq136 (by exact nin0)
        replace F_b135_arg1 := F_b135_arg1.keep Kq136 (by exact nin0)
        replace F_b135_arg2 := F_b135_arg2.keep Kq136 (by exact nin0)
        replace F_b135_obj := F_b135_obj.keep Kq136 (by exact nin0)
        replace F_b135_asynchronous := F_b135_asynchronous.keep Kq136 (by exact nin0)
        replace F_b135_when := F_b135_when.keep Kq136 (by exact nin0)
        replace F_b135_callback := F_b135_callback.keep Kq136 (by exact nin0)
        replace Z0 := Nat.le_trans Z0 Kq136.1
        clear Kq136
        have hXN : ∃ LL, Stand p l e room_1 s m #[(.int p1), (.int p2), (.int p3), (.int p4), (.long q5), (.int p6)] below meth c T136 LL 3 29 ∧ Fr n0 LL := ⟨_, X136, NF⟩
        clear X136 NF
        obtain ⟨LL137, X136, NF⟩ := hXN
        show WP p.tables e below _ T136 (mkF m 94 #[.val (.int p1), .val (.int p2), .val (.int p3), .val (.int p4), .val (.long q5), .second, .val (.int p6), .val (.int (1 : Int32)), .val (.int sa), .val (.int da), .val (.ref r_126), .val (.ref b128), .val so, .val dob, .unset, .unset, .unset, .unset, .unset, .unset, .unset, .unset] [(.ref b135)])
        refine WP.st (T' := T136) (f' := (mkF m 118 #[.val (.int p1), .val (.int p2), .val (.int p3), .val (.int p4), .val (.long q5), .second, .val (.int p6), .val (.int (1 : Int32)), .val (.int sa), .val (.int da), .val (.ref r_126), .val (.ref b128), .val so, .val dob, .val (.ref b135), .val (.ref b135), .unset, .unset, .unset, .unset, .unset, .unset] [(.int p4), (.ref b135)])) (fun t k => ?_) ?_
        · refine XS.astore X136.here hx rfl (hb hby at_94) rfl rfl (l' := #[.val (.int p1), .val (.int p2), .val (.int p3), .val (.int p4), .val (.long q5), .second, .val (.int p6), .val (.int (1 : Int32)), .val (.int sa), .val (.int da), .val (.ref r_126), .val (.ref b128), .val so, .val dob, .val (.ref b135), .unset, .unset, .unset, .unset, .unset, .unset, .unset]) rfl ?_
          show Steps p.tables e below (T136.setTop (mkF m 96 #[.val (.int p1), .val (.int p2), .val (.int p3), .val (.int p4), .val (.long q5), .second, .val (.int p6), .val (.int (1 : Int32)), .val (.int sa), .val (.int da), .val (.ref r_126), .val (.ref b128), .val so, .val dob, .val (.ref b135), .unset, .unset, .unset, .unset, .unset, .unset, .unset] [])) t
          refine XS.iload X136.here hx rfl (hb hby at_96) rfl ?_
          show Steps p.tables e below (T136.setTop (mkF m 98 #[.val (.int p1), .val (.int p2), .val (.int p3), .val (.int p4), .val (.long q5), .second, .val (.int p6), .val (.int (1 : Int32)), .val (.int sa), .val (.int da), .val (.ref r_126), .val (.ref b128), .val so, .val dob, .val (.ref b135), .unset, .unset, .unset, .unset, .unset, .unset, .unset] [(.int (1 : Int32))])) t
          refine XS.ifNo X136.here hx rfl (hb hby at_98) rfl ((if0 _ _).trans (feq (by decide : ¬ ((1 : Int32) = (0 : Int32)))).1) ?_
          show Steps p.tables e below (T136.setTop (mkF m 101 #[.val (.int p1), .val (.int p2), .val (.int p3), .val (.int p4), .val (.long q5), .second, .val (.int p6), .val (.int (1 : Int32)), .val (.int sa), .val (.int da), .val (.ref r_126), .val (.ref b128), .val so, .val dob, .val (.ref b135), .unset, .unset, .unset, .unset, .unset, .unset, .unset] [])) t
          refine XS.aload X136.here hx rfl (hb hby at_101) rfl rfl ?_
          show Steps p.tables e below (T136.setTop (mkF m 103 #[.val (.int p1), .val (.int p2), .val (.int p3), .val (.int p4), .val (.long q5), .second, .val (.int p6), .val (.int (1 : Int32)), .val (.int sa), .val (.int da), .val (.ref r_126), .val (.ref b128), .val so, .val dob, .val (.ref b135), .unset, .unset, .unset, .unset, .unset, .unset, .unset] [(.ref b135)])) t
          refine XS.goto X136.here hx rfl (pc0 := 103) (pc' := 113) rfl (hb hby at_103) (by decide) (by decide) ?_
          show Steps p.tables e below (T136.setTop (mkF m 113 #[.val (.int p1), .val (.int p2), .val (.int p3), .val (.int p4), .val (.long q5), .second, .val (.int p6), .val (.int (1 : Int32)), .val (.int sa), .val (.int da), .val (.ref r_126), .val (.ref b128), .val so, .val dob, .val (.ref b135), .unset, .unset, .unset, .unset, .unset, .unset, .unset] [(.ref b135)])) t
          refine XS.astore X136.here hx rfl (hb hby at_113) rfl rfl (l' := #[.val (.int p1), .val (.int p2), .val (.int p3), .val (.int p4), .val (.long q5), .second, .val (.int p6), .val (.int (1 : Int32)), .val (.int sa), .val (.int da), .val (.ref r_126), .val (.ref b128), .val so, .val dob, .val (.ref b135), .val (.ref b135), .unset, .unset, .unset, .unset, .unset, .unset]) rfl ?_
          show Steps p.tables e below (T136.setTop (mkF m 115 #[.val (.int p1), .val (.int p2), .val (.int p3), .val (.int p4), .val (.long q5), .second, .val (.int p6), .val (.int (1 : Int32)), .val (.int sa), .val (.int da), .val (.ref r_126), .val (.ref b128), .val so, .val dob, .val (.ref b135), .val (.ref b135), .unset, .unset, .unset, .unset, .unset, .unset] [])) t
          refine XS.aload X136.here hx rfl (hb hby at_115) rfl rfl ?_
          show Steps p.tables e below (T136.setTop (mkF m 117 #[.val (.int p1), .val (.int p2), .val (.int p3), .val (.int p4), .val (.long q5), .second, .val (.int p6), .val (.int (1 : Int32)), .val (.int sa), .val (.int da), .val (.ref r_126), .val (.ref b128), .val so, .val dob, .val (.ref b135), .val (.ref b135), .unset, .unset, .unset, .unset, .unset, .unset] [(.ref b135)])) t
          refine XS.iloadN X136.here hx rfl (hb hby at_117) rfl ?_
          exact k
        obtain ⟨T138, h138, X138, e138, W138, st138⟩ := putF X136 hx hZ hown (host := "") (Or.inl (w_25 hw)) Via.refl e136 F_b135_what E_b135 (Or.inl (w_26 hw)) (w_8 hw) (ty := .int) (by decide) rfl rfl (g := (mkF m 118 #[.val (.int p1), .val (.int p2), .val (.int p3), .val (.int p4), .val (.long q5), .second, .val (.int p6), .val (.int (1 : Int32)), .val (.int sa), .val (.int da), .val (.ref r_126), .val (.ref b128), .val so, .val dob, .val (.ref b135), .val (.ref b135), .unset, .unset, .unset, .unset, .unset, .unset] [(.int p4), (.ref b135)])) rfl rfl (hb hby at_118)
        refine WP.st st138 ?_
        clear st138
        replace E_b128 := E_b128.wr W138
        replace F_b128_what := F_b128_what.other W138 (Or.inl ne_b128_b135)
        replace F_b128_arg1 := F_b128_arg1.other W138 (Or.inl ne_b128_b135)
        replace F_b128_arg2 := F_b128_arg2.other W138 (Or.inl ne_b128_b135)
        replace F_b128_obj := F_b128_obj.other W138 (Or.inl ne_b128_b135)
        replace F_b128_asynchronous := F_b128_asynchronous.other W138 (Or.inl ne_b128_b135)
        replace F_b128_when := F_b128_when.other W138 (Or.inl ne_b128_b135)
        replace F_b128_callback := F_b128_callback.other W138 (Or.inl ne_b128_b135)
        replace E_b135 := E_b135.wr W138
        replace F_b135_what := F_b135_what.same W138
        replace F_b135_arg1 := F_b135_arg1.other W138 (Or.inr (sn_6 hw))
        replace F_b135_arg2 := F_b135_arg2.other W138 (Or.inr (sn_7 hw))
        replace F_b135_obj := F_b135_obj.other W138 (Or.inr (sn_8 hw))
        replace F_b135_asynchronous := F_b135_asynchronous.other W138 (Or.inr (sn_9 hw))
        replace F_b135_when := F_b135_when.other W138 (Or.inr (sn_10 hw))
        replace F_b135_callback := F_b135_callback.other W138 (Or.inr (sn_11 hw))
        replace Z0 := Nat.le_trans Z0 (Keep.of_wr W138).1
        replace NF := Fr.snoc X138 NF g_b135
        clear W138
        have hXN : ∃ LL, Stand p l e room_1 s m #[(.int p1), (.int p2), (.int p3), (.int p4), (.long q5), (.int p6)] below meth c T138 LL 3 29 ∧ Fr n0 LL := ⟨_, X138, NF⟩
        clear X138 NF
        obtain ⟨LL139, X138, NF⟩ := hXN
        show WP p.tables e below _ T138 (mkF m 121 #[.val (.int p1), .val (.int p2), .val (.int p3), .val (.int p4), .val (.long q5), .second, .val (.int p6), .val (.int (1 : Int32)), .val (.int sa), .val (.int da), .val (.ref r_126), .val (.ref b128), .val so, .val dob, .val (.ref b135), .val (.ref b135), .unset, .unset, .unset, .unset, .unset, .unset] [])
        refine WP.st (T' := T138) (f' := (mkF m 126 #[.val (.int p1), .val (.int p2), .val (.int p3), .val (.int p4), .val (.long q5), .second, .val (.int p6), .val (.int (1 : Int32)), .val (.int sa), .val (.int da), .val (.ref r_126), .val (.ref b128), .val so, .val dob, .val (.ref b135), .val (.ref b135), .unset, .unset, .unset, .unset, .unset, .unset] [(.int (p4 ^^^ (-1 : Int32))), (.ref b135)])) (fun t k => ?_) ?_
        · refine XS.aload X138.here hx rfl (hb hby at_121) rfl rfl ?_
          show Steps p.tables e below (T138.setTop (mkF m 123 #[.val (.int p1), .val (.int p2), .val (.int p3), .val (.int p4), .val (.long q5), .second, .val (.int p6), .val (.int (1 : Int32)), .val (.int sa), .val (.int da), .val (.ref r_126), .val (.ref b128), .val so, .val dob, .val (.ref b135), .val (.ref b135), .unset, .unset, .unset, .unset, .unset, .unset] [(.ref b135)])) t
          refine XS.iloadN X138.here hx rfl (hb hby at_123) rfl ?_
          show Steps p.tables e below (T138.setTop (mkF m 124 #[.val (.int p1), .val (.int p2), .val (.int p3), .val (.int p4), .val (.long q5), .second, .val (.int p6), .val (.int (1 : Int32)), .val (.int sa), .val (.int da), .val (.ref r_126), .val (.ref b128), .val so, .val dob, .val (.ref b135), .val (.ref b135), .unset, .unset, .unset, .unset, .unset, .unset] [(.int p4), (.ref b135)])) t
          refine XS.iconst X138.here hx rfl (hb hby at_124) ?_
          show Steps p.tables e below (T138.setTop (mkF m 125 #[.val (.int p1), .val (.int p2), .val (.int p3), .val (.int p4), .val (.long q5), .second, .val (.int p6), .val (.int (1 : Int32)), .val (.int sa), .val (.int da), .val (.ref r_126), .val (.ref b128), .val so, .val dob, .val (.ref b135), .val (.ref b135), .unset, .unset, .unset, .unset, .unset, .unset] [(.int (-1 : Int32)), (.int p4), (.ref b135)])) t
          refine XS.ixor X138.here hx rfl (hb hby at_125) rfl ?_
          exact k
        obtain ⟨T140, h140, X140, e140, W140, st140⟩ := putF X138 hx hZ hown (host := "") (Or.inl (w_27 hw)) Via.refl e138 F_b135_arg1 E_b135 (Or.inl (w_28 hw)) (w_8 hw) (ty := .int) (by decide) rfl rfl (g := (mkF m 126 #[.val (.int p1), .val (.int p2), .val (.int p3), .val (.int p4), .val (.long q5), .second, .val (.int p6), .val (.int (1 : Int32)), .val (.int sa), .val (.int da), .val (.ref r_126), .val (.ref b128), .val so, .val dob, .val (.ref b135), .val (.ref b135), .unset, .unset, .unset, .unset, .unset, .unset] [(.int (p4 ^^^ (-1 : Int32))), (.ref b135)])) rfl rfl (hb hby at_126)
        refine WP.st st140 ?_
        clear st140
        replace E_b128 := E_b128.wr W140
        replace F_b128_what := F_b128_what.other W140 (Or.inl ne_b128_b135)
        replace F_b128_arg1 := F_b128_arg1.other W140 (Or.inl ne_b128_b135)
        replace F_b128_arg2 := F_b128_arg2.other W140 (Or.inl ne_b128_b135)
        replace F_b128_obj := F_b128_obj.other W140 (Or.inl ne_b128_b135)
        replace F_b128_asynchronous := F_b128_asynchronous.other W140 (Or.inl ne_b128_b135)
        replace F_b128_when := F_b128_when.other W140 (Or.inl ne_b128_b135)
        replace F_b128_callback := F_b128_callback.other W140 (Or.inl ne_b128_b135)
        replace E_b135 := E_b135.wr W140
        replace F_b135_what := F_b135_what.other W140 (Or.inr (sn_12 hw))
        replace F_b135_arg1 := F_b135_arg1.same W140
        replace F_b135_arg2 := F_b135_arg2.other W140 (Or.inr (sn_13 hw))
        replace F_b135_obj := F_b135_obj.other W140 (Or.inr (sn_14 hw))
        replace F_b135_asynchronous := F_b135_asynchronous.other W140 (Or.inr (sn_15 hw))
        replace F_b135_when := F_b135_when.other W140 (Or.inr (sn_16 hw))
        replace F_b135_callback := F_b135_callback.other W140 (Or.inr (sn_17 hw))
        replace Z0 := Nat.le_trans Z0 (Keep.of_wr W140).1
        replace NF := Fr.snoc X140 NF g_b135
        clear W140
        have hXN : ∃ LL, Stand p l e room_1 s m #[(.int p1), (.int p2), (.int p3), (.int p4), (.long q5), (.int p6)] below meth c T140 LL 3 29 ∧ Fr n0 LL := ⟨_, X140, NF⟩
        clear X140 NF
        obtain ⟨LL141, X140, NF⟩ := hXN
        show WP p.tables e below _ T140 (mkF m 129 #[.val (.int p1), .val (.int p2), .val (.int p3), .val (.int p4), .val (.long q5), .second, .val (.int p6), .val (.int (1 : Int32)), .val (.int sa), .val (.int da), .val (.ref r_126), .val (.ref b128), .val so, .val dob, .val (.ref b135), .val (.ref b135), .unset, .unset, .unset, .unset, .unset, .unset] [])
        refine WP.st (T' := T140) (f' := (mkF m 134 #[.val (.int p1), .val (.int p2), .val (.int p3), .val (.int p4), .val (.long q5), .second, .val (.int p6), .val (.int (1 : Int32)), .val (.int sa), .val (.int da), .val (.ref r_126), .val (.ref b128), .val so, .val dob, .val (.ref b135), .val (.ref b135), .unset, .unset, .unset, .unset, .unset, .unset] [(.int (p4 ^^^ p3)), (.ref b135)])) (fun t k => ?_) ?_
        · refine XS.aload X140.here hx rfl (hb hby at_129) rfl rfl ?_
          show Steps p.tables e below (T140.setTop (mkF m 131 #[.val (.int p1), .val (.int p2), .val (.int p3), .val (.int p4), .val (.long q5), .second, .val (.int p6), .val (.int (1 : Int32)), .val (.int sa), .val (.int da), .val (.ref r_126), .val (.ref b128), .val so, .val dob, .val (.ref b135), .val (.ref b135), .unset, .unset, .unset, .unset, .unset, .unset] [(.ref b135)])) t
          refine XS.iloadN X140.here hx rfl (hb hby at_131) rfl ?_
          show Steps p.tables e below (T140.setTop (mkF m 132 #[.val (.int p1), .val (.int p2), .val (.int p3), .val (.int p4), .val (.long q5), .second, .val (.int p6), .val (.int (1 : Int32)), .val (.int sa), .val (.int da), .val (.ref r_126), .val (.ref b128), .val so, .val dob, .val (.ref b135), .val (.ref b135), .unset, .unset, .unset, .unset, .unset, .unset] [(.int p4), (.ref b135)])) t
          refine XS.iloadN X140.here hx rfl (hb hby at_132) rfl ?_
          show Steps p.tables e below (T140.setTop (mkF m 133 #[.val (.int p1), .val (.int p2), .val (.int p3), .val (.int p4), .val (.long q5), .second, .val (.int p6), .val (.int (1 : Int32)), .val (.int sa), .val (.int da), .val (.ref r_126), .val (.ref b128), .val so, .val dob, .val (.ref b135), .val (.ref b135), .unset, .unset, .unset, .unset, .unset, .unset] [(.int p3), (.int p4), (.ref b135)])) t
          refine XS.ixor X140.here hx rfl (hb hby at_133) rfl ?_
          exact k
        obtain ⟨T142, h142, X142, e142, W142, st142⟩ := putF X140 hx hZ hown (host := "") (Or.inl (w_29 hw)) Via.refl e140 F_b135_arg2 E_b135 (Or.inl (w_30 hw)) (w_8 hw) (ty := .int) (by decide) rfl rfl (g := (mkF m 134 #[.val (.int p1), .val (.int p2), .val (.int p3), .val (.int p4), .val (.long q5), .second, .val (.int p6), .val (.int (1 : Int32)), .val (.int sa), .val (.int da), .val (.ref r_126), .val (.ref b128), .val so, .val dob, .val (.ref b135), .val (.ref b135), .unset, .unset, .unset, .unset, .unset, .unset] [(.int (p4 ^^^ p3)), (.ref b135)])) rfl rfl (hb hby at_134)
        refine WP.st st142 ?_
        clear st142
        replace E_b128 := E_b128.wr W142
        replace F_b128_what := F_b128_what.other W142 (Or.inl ne_b128_b135)
        replace F_b128_arg1 := F_b128_arg1.other W142 (Or.inl ne_b128_b135)
        replace F_b128_arg2 := F_b128_arg2.other W142 (Or.inl ne_b128_b135)
        replace F_b128_obj := F_b128_obj.other W142 (Or.inl ne_b128_b135)
        replace F_b128_asynchronous := F_b128_asynchronous.other W142 (Or.inl ne_b128_b135)
        replace F_b128_when := F_b128_when.other W142 (Or.inl ne_b128_b135)
        replace F_b128_callback := F_b128_callback.other W142 (Or.inl ne_b128_b135)
        replace E_b135 := E_b135.wr W142
        replace F_b135_what := F_b135_what.other W142 (Or.inr (sn_18 hw))
        replace F_b135_arg1 := F_b135_arg1.other W142 (Or.inr (sn_19 hw))
        replace F_b135_arg2 := F_b135_arg2.same W142
        replace F_b135_obj := F_b135_obj.other W142 (Or.inr (sn_20 hw))
        replace F_b135_asynchronous := F_b135_asynchronous.other W142 (Or.inr (sn_21 hw))
        replace F_b135_when := F_b135_when.other W142 (Or.inr (sn_22 hw))
        replace F_b135_callback := F_b135_callback.other W142 (Or.inr (sn_23 hw))
        replace Z0 := Nat.le_trans Z0 (Keep.of_wr W142).1
        replace NF := Fr.snoc X142 NF g_b135
        clear W142
        have hXN : ∃ LL, Stand p l e room_1 s m #[(.int p1), (.int p2), (.int p3), (.int p4), (.long q5), (.int p6)] below meth c T142 LL 3 29 ∧ Fr n0 LL := ⟨_, X142, NF⟩
        clear X142 NF
        obtain ⟨LL143, X142, NF⟩ := hXN
        show WP p.tables e below _ T142 (mkF m 137 #[.val (.int p1), .val (.int p2), .val (.int p3), .val (.int p4), .val (.long q5), .second, .val (.int p6), .val (.int (1 : Int32)), .val (.int sa), .val (.int da), .val (.ref r_126), .val (.ref b128), .val so, .val dob, .val (.ref b135), .val (.ref b135), .unset, .unset, .unset, .unset, .unset, .unset] [])
        refine WP.st (T' := T142) (f' := (mkF m 141 #[.val (.int p1), .val (.int p2), .val (.int p3), .val (.int p4), .val (.long q5), .second, .val (.int p6), .val (.int (1 : Int32)), .val (.int sa), .val (.int da), .val (.ref r_126), .val (.ref b128), .val so, .val dob, .val (.ref b135), .val (.ref b135), .unset, .unset, .unset, .unset, .unset, .unset] [dob, (.ref b135)])) (fun t k => ?_) ?_
        · refine XS.aload X142.here hx rfl (hb hby at_137) rfl rfl ?_
          show Steps p.tables e below (T142.setTop (mkF m 139 #[.val (.int p1), .val (.int p2), .val (.int p3), .val (.int p4), .val (.long q5), .second, .val (.int p6), .val (.int (1 : Int32)), .val (.int sa), .val (.int da), .val (.ref r_126), .val (.ref b128), .val so, .val dob, .val (.ref b135), .val (.ref b135), .unset, .unset, .unset, .unset, .unset, .unset] [(.ref b135)])) t
          refine XS.aload X142.here hx rfl (hb hby at_139) rfl hr_dob ?_
          exact k
        obtain ⟨T144, h144, X144, e144, W144, st144⟩ := putF X142 hx hZ hown (host := "") (Or.inl (w_31 hw)) Via.refl e142 F_b135_obj E_b135 (Or.inl (w_32 hw)) (w_8 hw) (ty := (.object "java/lang/Object")) (by decide) rfl (by rcases ref_cases hr_dob with h | ⟨z, h⟩ <;> rw [h] <;> rfl) (g := (mkF m 141 #[.val (.int p1), .val (.int p2), .val (.int p3), .val (.int p4), .val (.long q5), .second, .val (.int p6), .val (.int (1 : Int32)), .val (.int sa), .val (.int da), .val (.ref r_126), .val (.ref b128), .val so, .val dob, .val (.ref b135), .val (.ref b135), .unset, .unset, .unset, .unset, .unset, .unset] [dob, (.ref b135)])) rfl rfl (hb hby at_141)
        refine WP.st st144 ?_
        clear st144
        replace E_b128 := E_b128.wr W144
        replace F_b128_what := F_b128_what.other W144 (Or.inl ne_b128_b135)
        replace F_b128_arg1 := F_b128_arg1.other W144 (Or.inl ne_b128_b135)
        replace F_b128_arg2 := F_b128_arg2.other W144 (Or.inl ne_b128_b135)
        replace F_b128_obj := F_b128_obj.other W144 (Or.inl ne_b128_b135)
        replace F_b128_asynchronous := F_b128_asynchronous.other W144 (Or.inl ne_b128_b135)
        replace F_b128_when := F_b128_when.other W144 (Or.inl ne_b128_b135)
        replace F_b128_callback := F_b128_callback.other W144 (Or.inl ne_b128_b135)
        replace E_b135 := E_b135.wr W144
        replace F_b135_what := F_b135_what.other W144 (Or.inr (sn_24 hw))
        replace F_b135_arg1 := F_b135_arg1.other W144 (Or.inr (sn_25 hw))
        replace F_b135_arg2 := F_b135_arg2.other W144 (Or.inr (sn_26 hw))
        replace F_b135_obj := F_b135_obj.same W144
        replace F_b135_asynchronous := F_b135_asynchronous.other W144 (Or.inr (sn_27 hw))
        replace F_b135_when := F_b135_when.other W144 (Or.inr (sn_28 hw))
        replace F_b135_callback := F_b135_callback.other W144 (Or.inr (sn_29 hw))
        replace Z0 := Nat.le_trans Z0 (Keep.of_wr W144).1
        replace NF := Fr.snoc X144 NF g_b135
        clear W144
        have hXN : ∃ LL, Stand p l e room_1 s m #[(.int p1), (.int p2), (.int p3), (.int p4), (.long q5), (.int p6)] below meth c T144 LL 3 29 ∧ Fr n0 LL := ⟨_, X144, NF⟩
        clear X144 NF
        obtain ⟨LL145, X144, NF⟩ := hXN
        show WP p.tables e below _ T144 (mkF m 144 #[.val (.int p1), .val (.int p2), .val (.int p3), .val (.int p4), .val (.long q5), .second, .val (.int p6), .val (.int (1 : Int32)), .val (.int sa), .val (.int da), .val (.ref r_126), .val (.ref b128), .val so, .val dob, .val (.ref b135), .val (.ref b135), .unset, .unset, .unset, .unset, .unset, .unset] [])
        refine WP.st (T' := T144) (f' := (mkF m 148 #[.val (.int p1), .val (.int p2), .val (.int p3), .val (.int p4), .val (.long q5), .second, .val (.int p6), .val (.int (1 : Int32)), .val (.int sa), .val (.int da), .val (.ref r_126), .val (.ref b128), .val so, .val dob, .val (.ref b135), .val (.ref b135), .unset, .unset, .unset, .unset, .unset, .unset] [(.int da), (.ref b135)])) (fun t k => ?_) ?_
        · refine XS.aload X144.here hx rfl (hb hby at_144) rfl rfl ?_
          show Steps p.tables e below (T144.setTop (mkF m 146 #[.val (.int p1), .val (.int p2), .val (.int p3), .val (.int p4), .val (.long q5), .second, .val (.int p6), .val (.int (1 : Int32)), .val (.int sa), .val (.int da), .val (.ref r_126), .val (.ref b128), .val so, .val dob, .val (.ref b135), .val (.ref b135), .unset, .unset, .unset, .unset, .unset, .unset] [(.ref b135)])) t
          refine XS.iload X144.here hx rfl (hb hby at_146) rfl ?_
          exact k
        obtain ⟨cq146, kq146, q146a, q146b, q146c⟩ := isOf hZ e144 E_b135
        obtain ⟨_, _, ⟨T146, L146, k146, n146⟩, -, X146, ⟨Lc146, hQ146, l146, y146, z146⟩, st146⟩ := X144.virtualBack hx (y := (⟨"com/example/hasten/hasten/Message", "setAsynchronous", "(Z)V"⟩ : MethodName)) (z := (⟨"com/example/hasten/hasten/Message", "setAsynchronous", "(Z)V"⟩ : MethodName)) hown (mvT hZ (w_33 hw)) (mvT hZ (w_34 hw)) (notFace_of_selects (args := #[]) (mvT hZ (w_36 hw))) (mvT hZ (w_36 hw)) (mvT hZ (w_35 hw)) (by decide) (backOf (W := 0) (rm6 l Z a0 hw [] b135 da p4 (p4 ^^^ (-1 : Int32)) (p4 ^^^ p3) dob (0 : Int32) (0 : Int64) Value.null h144 n0 Z0 E_b135 g_b135 F_b135_what F_b135_arg1 F_b135_arg2 F_b135_obj F_b135_asynchronous F_b135_when F_b135_callback (hda : da = 0 ∨ da = 1)) hZ (w_37 hw) (w_9 hw) (by decide) (by decide)) q146a q146c (g := (mkF m 148 #[.val (.int p1), .val (.int p2), .val (.int p3), .val (.int p4), .val (.long q5), .second, .val (.int p6), .val (.int (1 : Int32)), .val (.int sa), .val (.int da), .val (.ref r_126), .val (.ref b128), .val so, .val dob, .val (.ref b135), .val (.ref b135), .unset, .unset, .unset, .unset, .unset, .unset] [(.int da), (.ref b135)])) rfl (by rw [hml]; rfl) (Steps.refl _) (argsL := [(.int da)]) (rest := []) (lenOf pd_4 rfl) rfl (by show 2 * 0 + _ ≤ _; exact Nat.le_of_eq rfl) (hb hby at_148) (fun _ _ => ⟨rfl, e144, (by decide : 3 + 0 ≤ _), (by decide : 29 + 0 ≤ _)⟩)
        dsimp only [Pt.U, Pt.locs, Pt.cells, Pt.slots] at X146 l146 y146 z146 st146 hQ146
        subst l146 y146 z146
        obtain ⟨rfl, Nq146, Kq146, nF146_b135_what, nF146_b135_arg1, nF146_b135_arg2, nF146_b135_obj, nF146_b135_asynchronous, nF146_b135_when, nF146_b135_callback⟩ := hQ146
        replace NF := Fr.app NF Nq146
        clear Nq146
        refine WP.tr st146 ?_
        clear st146
        obtain ⟨h146, e146⟩ : ∃ h, T146.heap = h := ⟨_, rfl⟩
        rw [e146] at Kq146 nF146_b135_what nF146_b135_arg1 nF146_b135_arg2 nF146_b135_obj nF146_b135_asynchronous nF146_b135_when nF146_b135_callback
        replace E_b128 := E_b128.keep Kq146
        replace F_b128_what := F_b128_what.keep Kq146 (by exact ninS ne_b128_b135 (nin0))
        replace F_b128_arg1 := F_b128_arg1.keep Kq146 (by exact ninS ne_b128_b135 (nin0))
        replace F_b128_arg2 := F_b128_arg2.keep Kq146 (by exact ninS ne_b128_b135 (nin0))
        replace F_b128_obj := F_b128_obj.keep Kq146 (by exact ninS ne_b128_b135 (nin0))
        replace F_b128_asynchronous := F_b128_asynchronous.keep Kq146 (by exact ninS ne_b128_b135 (nin0))
        replace F_b128_when := F_b128_when.keep Kq146 (by exact ninS ne_b128_b135 (nin0))
        replace F_b128_callback := F_b128_callback.keep Kq146 (by exact ninS ne_b128_b135 (nin0))
        replace E_b135 := E_b135.keep Kq146
        clear F_b135_what
        clear F_b135_arg1
        clear F_b135_arg2
        clear F_b135_obj
        clear F_b135_asynchronous
        clear F_b135_when
        clear F_b135_callback
        replace Z0 := Nat.le_trans Z0 Kq146.1
        clear Kq146
        have F_b135_what := nF146_b135_what
        clear nF146_b135_what
        have F_b135_arg1 := nF146_b135_arg1
        clear nF146_b135_arg1
        have F_b135_arg2 := nF146_b135_arg2
        clear nF146_b135_arg2
        have F_b135_obj := nF146_b135_obj
        clear nF146_b135_obj
        have F_b135_asynchronous := nF146_b135_asynchronous
        clear nF146_b135_asynchronous
        have F_b135_when := nF146_b135_when
        clear nF146_b135_when
        have F_b135_callback := nF146_b135_callback
        clear nF146_b135_callback
        have hXN : ∃ LL, Stand p l e room_1 s m #[(.int p1), (.int p2), (.int p3), (.int p4), (.long q5), (.int p6)] below meth c T146 LL 3 29 ∧ Fr n0 LL := ⟨_, X146, NF⟩
        clear X146 NF
        obtain ⟨LL147, X146, NF⟩ := hXN
        show WP p.tables e below _ T146 (mkF m 151 #[.val (.int p1), .val (.int p2), .val (.int p3), .val (.int p4), .val (.long q5), .second, .val (.int p6), .val (.int (1 : Int32)), .val (.int sa), .val (.int da), .val (.ref r_126), .val (.ref b128), .val so, .val dob, .val (.ref b135), .val (.ref b135), .unset, .unset, .unset, .unset, .unset, .unset] [])
        refine WP.st (T' := T146) (f' := (mkF m 155 #[.val (.int p1), .val (.int p2), .val (.int p3), .val (.int p4), .val (.long q5), .second, .val (.int p6), .val (.int (1 : Int32)), .val (.int sa), .val (.int da), .val (.ref r_126), .val (.ref b128), .val so, .val dob, .val (.ref b135), .val (.ref b135), .unset, .unset, .unset, .unset, .unset, .unset] [(.long q5), (.ref b135)])) (fun t k => ?_) ?_
        · refine XS.aload X146.here hx rfl (hb hby at_151) rfl rfl ?_
          show Steps p.tables e below (T146.setTop (mkF m 153 #[.val (.int p1), .val (.int p2), .val (.int p3), .val (.int p4), .val (.long q5), .second, .val (.int p6), .val (.int (1 : Int32)), .val (.int sa), .val (.int da), .val (.ref r_126), .val (.ref b128), .val so, .val dob, .val (.ref b135), .val (.ref b135), .unset, .unset, .unset, .unset, .unset, .unset] [(.ref b135)])) t
          refine XS.lload X146.here hx rfl (hb hby at_153) rfl ?_
          exact k
        obtain ⟨T148, h148, X148, e148, W148, st148⟩ := putF X146 hx hZ hown (host := "") (Or.inl (w_41 hw)) (Via.of (w_42 hw)) e146 F_b135_when E_b135 (Or.inl (w_43 hw)) (w_8 hw) (ty := .long) (by decide) rfl rfl (g := (mkF m 155 #[.val (.int p1), .val (.int p2), .val (.int p3), .val (.int p4), .val (.long q5), .second, .val (.int p6), .val (.int (1 : Int32)), .val (.int sa), .val (.int da), .val (.ref r_126), .val (.ref b128), .val so, .val dob, .val (.ref b135), .val (.ref b135), .unset, .unset, .unset, .unset, .unset, .unset] [(.long q5), (.ref b135)])) rfl rfl (hb hby at_155)
        refine WP.st st148 ?_
        clear st148
        replace E_b128 := E_b128.wr W148
        replace F_b128_what := F_b128_what.other W148 (Or.inl ne_b128_b135)
        replace F_b128_arg1 := F_b128_arg1.other W148 (Or.inl ne_b128_b135)
        replace F_b128_arg2 := F_b128_arg2.other W148 (Or.inl ne_b128_b135)
        replace F_b128_obj := F_b128_obj.other W148 (Or.inl ne_b128_b135)
        replace F_b128_asynchronous := F_b128_asynchronous.other W148 (Or.inl ne_b128_b135)
        replace F_b128_when := F_b128_when.other W148 (Or.inl ne_b128_b135)
        replace F_b128_callback := F_b128_callback.other W148 (Or.inl ne_b128_b135)
        replace E_b135 := E_b135.wr W148
        replace F_b135_what := F_b135_what.other W148 (Or.inr (sn_30 hw))
        replace F_b135_arg1 := F_b135_arg1.other W148 (Or.inr (sn_31 hw))
        replace F_b135_arg2 := F_b135_arg2.other W148 (Or.inr (sn_32 hw))
        replace F_b135_obj := F_b135_obj.other W148 (Or.inr (sn_33 hw))
        replace F_b135_asynchronous := F_b135_asynchronous.other W148 (Or.inr (sn_34 hw))
        replace F_b135_when := F_b135_when.same W148
        replace F_b135_callback := F_b135_callback.other W148 (Or.inr (sn_35 hw))
        replace Z0 := Nat.le_trans Z0 (Keep.of_wr W148).1
        replace NF := Fr.snoc X148 NF g_b135
        clear W148
        have hXN : ∃ LL, Stand p l e room_1 s m #[(.int p1), (.int p2), (.int p3), (.int p4), (.long q5), (.int p6)] below meth c T148 LL 3 29 ∧ Fr n0 LL := ⟨_, X148, NF⟩
        clear X148 NF
        obtain ⟨LL149, X148, NF⟩ := hXN
        show WP p.tables e below _ T148 (mkF m 158 #[.val (.int p1), .val (.int p2), .val (.int p3), .val (.int p4), .val (.long q5), .second, .val (.int p6), .val (.int (1 : Int32)), .val (.int sa), .val (.int da), .val (.ref r_126), .val (.ref b128), .val so, .val dob, .val (.ref b135), .val (.ref b135), .unset, .unset, .unset, .unset, .unset, .unset] [])
        refine WP.st (T' := T148) (f' := (mkF m 161 #[.val (.int p1), .val (.int p2), .val (.int p3), .val (.int p4), .val (.long q5), .second, .val (.int p6), .val (.int (1 : Int32)), .val (.int sa), .val (.int da), .val (.ref r_126), .val (.ref b128), .val so, .val dob, .val (.ref b135), .val (.ref b135), .unset, .unset, .unset, .unset, .unset, .unset] [(.int p1), (.ref b135)])) (fun t k => ?_) ?_
        · refine XS.aload X148.here hx rfl (hb hby at_158) rfl rfl ?_
          show Steps p.tables e below (T148.setTop (mkF m 160 #[.val (.int p1), .val (.int p2), .val (.int p3), .val (.int p4), .val (.long q5), .second, .val (.int p6), .val (.int (1 : Int32)), .val (.int sa), .val (.int da), .val (.ref r_126), .val (.ref b128), .val so, .val dob, .val (.ref b135), .val (.ref b135), .unset, .unset, .unset, .unset, .unset, .unset] [(.ref b135)])) t
          refine XS.iloadN X148.here hx rfl (hb hby at_160) rfl ?_
          exact k
        obtain ⟨T150, h150, X150, e150, W150, st150⟩ := putF X148 hx hZ hown (host := "") (Or.inl (w_25 hw)) Via.refl e148 F_b135_what E_b135 (Or.inl (w_26 hw)) (w_8 hw) (ty := .int) (by decide) rfl rfl (g := (mkF m 161 #[.val (.int p1), .val (.int p2), .val (.int p3), .val (.int p4), .val (.long q5), .second, .val (.int p6), .val (.int (1 : Int32)), .val (.int sa), .val (.int da), .val (.ref r_126), .val (.ref b128), .val so, .val dob, .val (.ref b135), .val (.ref b135), .unset, .unset, .unset, .unset, .unset, .unset] [(.int p1), (.ref b135)])) rfl rfl (hb hby at_161)
        refine WP.st st150 ?_
        clear st150
        replace E_b128 := E_b128.wr W150
        replace F_b128_what := F_b128_what.other W150 (Or.inl ne_b128_b135)
        replace F_b128_arg1 := F_b128_arg1.other W150 (Or.inl ne_b128_b135)
        replace F_b128_arg2 := F_b128_arg2.other W150 (Or.inl ne_b128_b135)
        replace F_b128_obj := F_b128_obj.other W150 (Or.inl ne_b128_b135)
        replace F_b128_asynchronous := F_b128_asynchronous.other W150 (Or.inl ne_b128_b135)
        replace F_b128_when := F_b128_when.other W150 (Or.inl ne_b128_b135)
        replace F_b128_callback := F_b128_callback.other W150 (Or.inl ne_b128_b135)
        replace E_b135 := E_b135.wr W150
        replace F_b135_what := F_b135_what.same W150
        replace F_b135_arg1 := F_b135_arg1.other W150 (Or.inr (sn_6 hw))
        replace F_b135_arg2 := F_b135_arg2.other W150 (Or.inr (sn_7 hw))
        replace F_b135_obj := F_b135_obj.other W150 (Or.inr (sn_8 hw))
        replace F_b135_asynchronous := F_b135_asynchronous.other W150 (Or.inr (sn_9 hw))
        replace F_b135_when := F_b135_when.other W150 (Or.inr (sn_10 hw))
        replace F_b135_callback := F_b135_callback.other W150 (Or.inr (sn_11 hw))
        replace Z0 := Nat.le_trans Z0 (Keep.of_wr W150).1
        replace NF := Fr.snoc X150 NF g_b135
        clear W150
        have hXN : ∃ LL, Stand p l e room_1 s m #[(.int p1), (.int p2), (.int p3), (.int p4), (.long q5), (.int p6)] below meth c T150 LL 3 29 ∧ Fr n0 LL := ⟨_, X150, NF⟩
        clear X150 NF
        obtain ⟨LL151, X150, NF⟩ := hXN
        show WP p.tables e below _ T150 (mkF m 164 #[.val (.int p1), .val (.int p2), .val (.int p3), .val (.int p4), .val (.long q5), .second, .val (.int p6), .val (.int (1 : Int32)), .val (.int sa), .val (.int da), .val (.ref r_126), .val (.ref b128), .val so, .val dob, .val (.ref b135), .val (.ref b135), .unset, .unset, .unset, .unset, .unset, .unset] [])
        refine WP.st (T' := T150) (f' := (mkF m 167 #[.val (.int p1), .val (.int p2), .val (.int p3), .val (.int p4), .val (.long q5), .second, .val (.int p6), .val (.int (1 : Int32)), .val (.int sa), .val (.int da), .val (.ref r_126), .val (.ref b128), .val so, .val dob, .val (.ref b135), .val (.ref b135), .unset, .unset, .unset, .unset, .unset, .unset] [(.int p2), (.ref b135)])) (fun t k => ?_) ?_
        · refine XS.aload X150.here hx rfl (hb hby at_164) rfl rfl ?_
          show Steps p.tables e below (T150.setTop (mkF m 166 #[.val (.int p1), .val (.int p2), .val (.int p3), .val (.int p4), .val (.long q5), .second, .val (.int p6), .val (.int (1 : Int32)), .val (.int sa), .val (.int da), .val (.ref r_126), .val (.ref b128), .val so, .val dob, .val (.ref b135), .val (.ref b135), .unset, .unset, .unset, .unset, .unset, .unset] [(.ref b135)])) t
          refine XS.iloadN X150.here hx rfl (hb hby at_166) rfl ?_
          exact k
        obtain ⟨T152, h152, X152, e152, W152, st152⟩ := putF X150 hx hZ hown (host := "") (Or.inl (w_27 hw)) Via.refl e150 F_b135_arg1 E_b135 (Or.inl (w_28 hw)) (w_8 hw) (ty := .int) (by decide) rfl rfl (g := (mkF m 167 #[.val (.int p1), .val (.int p2), .val (.int p3), .val (.int p4), .val (.long q5), .second, .val (.int p6), .val (.int (1 : Int32)), .val (.int sa), .val (.int da), .val (.ref r_126), .val (.ref b128), .val so, .val dob, .val (.ref b135), .val (.ref b135), .unset, .unset, .unset, .unset, .unset, .unset] [(.int p2), (.ref b135)])) rfl rfl (hb hby at_167)
        refine WP.st st152 ?_
        clear st152
        replace E_b128 := E_b128.wr W152
        replace F_b128_what := F_b128_what.other W152 (Or.inl ne_b128_b135)
        replace F_b128_arg1 := F_b128_arg1.other W152 (Or.inl ne_b128_b135)
        replace F_b128_arg2 := F_b128_arg2.other W152 (Or.inl ne_b128_b135)
        replace F_b128_obj := F_b128_obj.other W152 (Or.inl ne_b128_b135)
        replace F_b128_asynchronous := F_b128_asynchronous.other W152 (Or.inl ne_b128_b135)
        replace F_b128_when := F_b128_when.other W152 (Or.inl ne_b128_b135)
        replace F_b128_callback := F_b128_callback.other W152 (Or.inl ne_b128_b135)
        replace E_b135 := E_b135.wr W152
        replace F_b135_what := F_b135_what.other W152 (Or.inr (sn_12 hw))
        replace F_b135_arg1 := F_b135_arg1.same W152
        replace F_b135_arg2 := F_b135_arg2.other W152 (Or.inr (sn_13 hw))
        replace F_b135_obj := F_b135_obj.other W152 (Or.inr (sn_14 hw))
        replace F_b135_asynchronous := F_b135_asynchronous.other W152 (Or.inr (sn_15 hw))
        replace F_b135_when := F_b135_when.other W152 (Or.inr (sn_16 hw))
        replace F_b135_callback := F_b135_callback.other W152 (Or.inr (sn_17 hw))
        replace Z0 := Nat.le_trans Z0 (Keep.of_wr W152).1
        replace NF := Fr.snoc X152 NF g_b135
        clear W152
        have hXN : ∃ LL, Stand p l e room_1 s m #[(.int p1), (.int p2), (.int p3), (.int p4), (.long q5), (.int p6)] below meth c T152 LL 3 29 ∧ Fr n0 LL := ⟨_, X152, NF⟩
        clear X152 NF
        obtain ⟨LL153, X152, NF⟩ := hXN
        show WP p.tables e below _ T152 (mkF m 170 #[.val (.int p1), .val (.int p2), .val (.int p3), .val (.int p4), .val (.long q5), .second, .val (.int p6), .val (.int (1 : Int32)), .val (.int sa), .val (.int da), .val (.ref r_126), .val (.ref b128), .val so, .val dob, .val (.ref b135), .val (.ref b135), .unset, .unset, .unset, .unset, .unset, .unset] [])
        refine WP.st (T' := T152) (f' := (mkF m 173 #[.val (.int p1), .val (.int p2), .val (.int p3), .val (.int p4), .val (.long q5), .second, .val (.int p6), .val (.int (1 : Int32)), .val (.int sa), .val (.int da), .val (.ref r_126), .val (.ref b128), .val so, .val dob, .val (.ref b135), .val (.ref b135), .unset, .unset, .unset, .unset, .unset, .unset] [(.int p3), (.ref b135)])) (fun t k => ?_) ?_
        · refine XS.aload X152.here hx rfl (hb hby at_170) rfl rfl ?_
          show Steps p.tables e below (T152.setTop (mkF m 172 #[.val (.int p1), .val (.int p2), .val (.int p3), .val (.int p4), .val (.long q5), .second, .val (.int p6), .val (.int (1 : Int32)), .val (.int sa), .val (.int da), .val (.ref r_126), .val (.ref b128), .val so, .val dob, .val (.ref b135), .val (.ref b135), .unset, .unset, .unset, .unset, .unset, .unset] [(.ref b135)])) t
          refine XS.iloadN X152.here hx rfl (hb hby at_172) rfl ?_
          exact k
        obtain ⟨T154, h154, X154, e154, W154, st154⟩ := putF X152 hx hZ hown (host := "") (Or.inl (w_29 hw)) Via.refl e152 F_b135_arg2 E_b135 (Or.inl (w_30 hw)) (w_8 hw) (ty := .int) (by decide) rfl rfl (g := (mkF m 173 #[.val (.int p1), .val (.int p2), .val (.int p3), .val (.int p4), .val (.long q5), .second, .val (.int p6), .val (.int (1 : Int32)), .val (.int sa), .val (.int da), .val (.ref r_126), .val (.ref b128), .val so, .val dob, .val (.ref b135), .val (.ref b135), .unset, .unset, .unset, .unset, .unset, .unset] [(.int p3), (.ref b135)])) rfl rfl (hb hby at_173)
        refine WP.st st154 ?_
        clear st154
        replace E_b128 := E_b128.wr W154
        replace F_b128_what := F_b128_what.other W154 (Or.inl ne_b128_b135)
        replace F_b128_arg1 := F_b128_arg1.other W154 (Or.inl ne_b128_b135)
        replace F_b128_arg2 := F_b128_arg2.other W154 (Or.inl ne_b128_b135)
        replace F_b128_obj := F_b128_obj.other W154 (Or.inl ne_b128_b135)
        replace F_b128_asynchronous := F_b128_asynchronous.other W154 (Or.inl ne_b128_b135)
        replace F_b128_when := F_b128_when.other W154 (Or.inl ne_b128_b135)
        replace F_b128_callback := F_b128_callback.other W154 (Or.inl ne_b128_b135)
        replace E_b135 := E_b135.wr W154
        replace F_b135_what := F_b135_what.other W154 (Or.inr (sn_18 hw))
        replace F_b135_arg1 := F_b135_arg1.other W154 (Or.inr (sn_19 hw))
        replace F_b135_arg2 := F_b135_arg2.same W154
        replace F_b135_obj := F_b135_obj.other W154 (Or.inr (sn_20 hw))
        replace F_b135_asynchronous := F_b135_asynchronous.other W154 (Or.inr (sn_21 hw))
        replace F_b135_when := F_b135_when.other W154 (Or.inr (sn_22 hw))
        replace F_b135_callback := F_b135_callback.other W154 (Or.inr (sn_23 hw))
        replace Z0 := Nat.le_trans Z0 (Keep.of_wr W154).1
        replace NF := Fr.snoc X154 NF g_b135
        clear W154
        have hXN : ∃ LL, Stand p l e room_1 s m #[(.int p1), (.int p2), (.int p3), (.int p4), (.long q5), (.int p6)] below meth c T154 LL 3 29 ∧ Fr n0 LL := ⟨_, X154, NF⟩
        clear X154 NF
        obtain ⟨LL155, X154, NF⟩ := hXN
        show WP p.tables e below _ T154 (mkF m 176 #[.val (.int p1), .val (.int p2), .val (.int p3), .val (.int p4), .val (.long q5), .second, .val (.int p6), .val (.int (1 : Int32)), .val (.int sa), .val (.int da), .val (.ref r_126), .val (.ref b128), .val so, .val dob, .val (.ref b135), .val (.ref b135), .unset, .unset, .unset, .unset, .unset, .unset] [])
        refine WP.st (T' := T154) (f' := (mkF m 180 #[.val (.int p1), .val (.int p2), .val (.int p3), .val (.int p4), .val (.long q5), .second, .val (.int p6), .val (.int (1 : Int32)), .val (.int sa), .val (.int da), .val (.ref r_126), .val (.ref b128), .val so, .val dob, .val (.ref b135), .val (.ref b135), .unset, .unset, .unset, .unset, .unset, .unset] [so, (.ref b135)])) (fun t k => ?_) ?_
        · refine XS.aload X154.here hx rfl (hb hby at_176) rfl rfl ?_
          show Steps p.tables e below (T154.setTop (mkF m 178 #[.val (.int p1), .val (.int p2), .val (.int p3), .val (.int p4), .val (.long q5), .second, .val (.int p6), .val (.int (1 : Int32)), .val (.int sa), .val (.int da), .val (.ref r_126), .val (.ref b128), .val so, .val dob, .val (.ref b135), .val (.ref b135), .unset, .unset, .unset, .unset, .unset, .unset] [(.ref b135)])) t
          refine XS.aload X154.here hx rfl (hb hby at_178) rfl hr_so ?_
          exact k
        obtain ⟨T156, h156, X156, e156, W156, st156⟩ := putF X154 hx hZ hown (host := "") (Or.inl (w_31 hw)) Via.refl e154 F_b135_obj E_b135 (Or.inl (w_32 hw)) (w_8 hw) (ty := (.object "java/lang/Object")) (by decide) rfl (by rcases ref_cases hr_so with h | ⟨z, h⟩ <;> rw [h] <;> rfl) (g := (mkF m 180 #[.val (.int p1), .val (.int p2), .val (.int p3), .val (.int p4), .val (.long q5), .second, .val (.int p6), .val (.int (1 : Int32)), .val (.int sa), .val (.int da), .val (.ref r_126), .val (.ref b128), .val so, .val dob, .val (.ref b135), .val (.ref b135), .unset, .unset, .unset, .unset, .unset, .unset] [so, (.ref b135)])) rfl rfl (hb hby at_180)
        refine WP.st st156 ?_
        clear st156
        replace E_b128 := E_b128.wr W156
        replace F_b128_what := F_b128_what.other W156 (Or.inl ne_b128_b135)
        replace F_b128_arg1 := F_b128_arg1.other W156 (Or.inl ne_b128_b135)
        replace F_b128_arg2 := F_b128_arg2.other W156 (Or.inl ne_b128_b135)
        replace F_b128_obj := F_b128_obj.other W156 (Or.inl ne_b128_b135)
        replace F_b128_asynchronous := F_b128_asynchronous.other W156 (Or.inl ne_b128_b135)
        replace F_b128_when := F_b128_when.other W156 (Or.inl ne_b128_b135)
        replace F_b128_callback := F_b128_callback.other W156 (Or.inl ne_b128_b135)
        replace E_b135 := E_b135.wr W156
        replace F_b135_what := F_b135_what.other W156 (Or.inr (sn_24 hw))
        replace F_b135_arg1 := F_b135_arg1.other W156 (Or.inr (sn_25 hw))
        replace F_b135_arg2 := F_b135_arg2.other W156 (Or.inr (sn_26 hw))
        replace F_b135_obj := F_b135_obj.same W156
        replace F_b135_asynchronous := F_b135_asynchronous.other W156 (Or.inr (sn_27 hw))
        replace F_b135_when := F_b135_when.other W156 (Or.inr (sn_28 hw))
        replace F_b135_callback := F_b135_callback.other W156 (Or.inr (sn_29 hw))
        replace Z0 := Nat.le_trans Z0 (Keep.of_wr W156).1
        replace NF := Fr.snoc X156 NF g_b135
        clear W156
        have hXN : ∃ LL, Stand p l e room_1 s m #[(.int p1), (.int p2), (.int p3), (.int p4), (.long q5), (.int p6)] below meth c T156 LL 3 29 ∧ Fr n0 LL := ⟨_, X156, NF⟩
        clear X156 NF
        obtain ⟨LL157, X156, NF⟩ := hXN
        show WP p.tables e below _ T156 (mkF m 183 #[.val (.int p1), .val (.int p2), .val (.int p3), .val (.int p4), .val (.long q5), .second, .val (.int p6), .val (.int (1 : Int32)), .val (.int sa), .val (.int da), .val (.ref r_126), .val (.ref b128), .val so, .val dob, .val (.ref b135), .val (.ref b135), .unset, .unset, .unset, .unset, .unset, .unset] [])
        refine WP.st (T' := T156) (f' := (mkF m 187 #[.val (.int p1), .val (.int p2), .val (.int p3), .val (.int p4), .val (.long q5), .second, .val (.int p6), .val (.int (1 : Int32)), .val (.int sa), .val (.int da), .val (.ref r_126), .val (.ref b128), .val so, .val dob, .val (.ref b135), .val (.ref b135), .unset, .unset, .unset, .unset, .unset, .unset] [(.int sa), (.ref b135)])) (fun t k => ?_) ?_
        · refine XS.aload X156.here hx rfl (hb hby at_183) rfl rfl ?_
          show Steps p.tables e below (T156.setTop (mkF m 185 #[.val (.int p1), .val (.int p2), .val (.int p3), .val (.int p4), .val (.long q5), .second, .val (.int p6), .val (.int (1 : Int32)), .val (.int sa), .val (.int da), .val (.ref r_126), .val (.ref b128), .val so, .val dob, .val (.ref b135), .val (.ref b135), .unset, .unset, .unset, .unset, .unset, .unset] [(.ref b135)])) t
          refine XS.iload X156.here hx rfl (hb hby at_185) rfl ?_
          exact k
        obtain ⟨cq158, kq158, q158a, q158b, q158c⟩ := isOf hZ e156 E_b135
        obtain ⟨_, _, ⟨T158, L158, k158, n158⟩, -, X158, ⟨Lc158, hQ158, l158, y158, z158⟩, st158⟩ := X156.virtualBack hx (y := (⟨"com/example/hasten/hasten/Message", "setAsynchronous", "(Z)V"⟩ : MethodName)) (z := (⟨"com/example/hasten/hasten/Message", "setAsynchronous", "(Z)V"⟩ : MethodName)) hown (mvT hZ (w_33 hw)) (mvT hZ (w_34 hw)) (notFace_of_selects (args := #[]) (mvT hZ (w_36 hw))) (mvT hZ (w_36 hw)) (mvT hZ (w_35 hw)) (by decide) (backOf (W := 0) (rm6 l Z a0 hw [] b135 sa p1 p2 p3 so da q5 Value.null h156 n0 Z0 E_b135 g_b135 F_b135_what F_b135_arg1 F_b135_arg2 F_b135_obj F_b135_asynchronous F_b135_when F_b135_callback (hsa : sa = 0 ∨ sa = 1)) hZ (w_37 hw) (w_9 hw) (by decide) (by decide)) q158a q158c (g := (mkF m 187 #[.val (.int p1), .val (.int p2), .val (.int p3), .val (.int p4), .val (.long q5), .second, .val (.int p6), .val (.int (1 : Int32)), .val (.int sa), .val (.int da), .val (.ref r_126), .val (.ref b128), .val so, .val dob, .val (.ref b135), .val (.ref b135), .unset, .unset, .unset, .unset, .unset, .unset] [(.int sa), (.ref b135)])) rfl (by rw [hml]; rfl) (Steps.refl _) (argsL := [(.int sa)]) (rest := []) (lenOf pd_4 rfl) rfl (by show 2 * 0 + _ ≤ _; exact Nat.le_of_eq rfl) (hb hby at_187) (fun _ _ => ⟨rfl, e156, (by decide : 3 + 0 ≤ _), (by decide : 29 + 0 ≤ _)⟩)
        dsimp only [Pt.U, Pt.locs, Pt.cells, Pt.slots] at X158 l158 y158 z158 st158 hQ158
        subst l158 y158 z158
        obtain ⟨rfl, Nq158, Kq158, nF158_b135_what, nF158_b135_arg1, nF158_b135_arg2, nF158_b135_obj, nF158_b135_asynchronous, nF158_b135_when, nF158_b135_callback⟩ := hQ158
        replace NF := Fr.app NF Nq158
        clear Nq158
        refine WP.tr st158 ?_
        clear st158
        obtain ⟨h158, e158⟩ : ∃ h, T158.heap = h := ⟨_, rfl⟩
        rw [e158] at Kq158 nF158_b135_what nF158_b135_arg1 nF158_b135_arg2 nF158_b135_obj nF158_b135_asynchronous nF158_b135_when nF158_b135_callback
        replace E_b128 := E_b128.keep Kq158
        replace F_b128_what := F_b128_what.keep Kq158 (by exact ninS ne_b128_b135 (nin0))
        replace F_b128_arg1 := F_b128_arg1.keep Kq158 (by exact ninS ne_b128_b135 (nin0))
        replace F_b128_arg2 := F_b128_arg2.keep Kq158 (by exact ninS ne_b128_b135 (nin0))
        replace F_b128_obj := F_b128_obj.keep Kq158 (by exact ninS ne_b128_b135 (nin0))
        replace F_b128_asynchronous := F_b128_asynchronous.keep Kq158 (by exact ninS ne_b128_b135 (nin0))
        replace F_b128_when := F_b128_when.keep Kq158 (by exact ninS ne_b128_b135 (nin0))
        replace F_b128_callback := F_b128_callback.keep Kq158 (by exact ninS ne_b128_b135 (nin0))
        replace E_b135 := E_b135.keep Kq158
        clear F_b135_what
        clear F_b135_arg1
        clear F_b135_arg2
        clear F_b135_obj
        clear F_b135_asynchronous
        clear F_b135_when
        clear F_b135_callback
        replace Z0 := Nat.le_trans Z0 Kq158.1
        clear Kq158
        have F_b135_what := nF158_b135_what
        clear nF158_b135_what
        have F_b135_arg1 := nF158_b135_arg1
        clear nF158_b135_arg1
        have F_b135_arg2 := nF158_b135_arg2
        clear nF158_b135_arg2
        have F_b135_obj := nF158_b135_obj
        clear nF158_b135_obj
        have F_b135_asynchronous := nF158_b135_asynchronous
        clear nF158_b135_asynchronous
        have F_b135_when := nF158_b135_when
        clear nF158_b135_when
        have F_b135_callback := nF158_b135_callback
        clear nF158_b135_callback
        have hXN : ∃ LL, Stand p l e room_1 s m #[(.int p1), (.int p2), (.int p3), (.int p4), (.long q5), (.int p6)] below meth c T158 LL 3 29 ∧ Fr n0 LL := ⟨_, X158, NF⟩
        clear X158 NF
        obtain ⟨LL159, X158, NF⟩ := hXN
        show WP p.tables e below _ T158 (mkF m 190 #[.val (.int p1), .val (.int p2), .val (.int p3), .val (.int p4), .val (.long q5), .second, .val (.int p6), .val (.int (1 : Int32)), .val (.int sa), .val (.int da), .val (.ref r_126), .val (.ref b128), .val so, .val dob, .val (.ref b135), .val (.ref b135), .unset, .unset, .unset, .unset, .unset, .unset] [])
        refine WP.st (T' := T158) (f' := (mkF m 198 #[.val (.int p1), .val (.int p2), .val (.int p3), .val (.int p4), .val (.long q5), .second, .val (.int p6), .val (.int (1 : Int32)), .val (.int sa), .val (.int da), .val (.ref r_126), .val (.ref b128), .val so, .val dob, .val (.ref b135), .val (.ref b135), .unset, .unset, .unset, .unset, .unset, .unset] [(.long (q5 ^^^ (-1 : Int64))), (.ref b135)])) (fun t k => ?_) ?_
        · refine XS.aload X158.here hx rfl (hb hby at_190) rfl rfl ?_
          show Steps p.tables e below (T158.setTop (mkF m 192 #[.val (.int p1), .val (.int p2), .val (.int p3), .val (.int p4), .val (.long q5), .second, .val (.int p6), .val (.int (1 : Int32)), .val (.int sa), .val (.int da), .val (.ref r_126), .val (.ref b128), .val so, .val dob, .val (.ref b135), .val (.ref b135), .unset, .unset, .unset, .unset, .unset, .unset] [(.ref b135)])) t
          refine XS.lload X158.here hx rfl (hb hby at_192) rfl ?_
          show Steps p.tables e below (T158.setTop (mkF m 194 #[.val (.int p1), .val (.int p2), .val (.int p3), .val (.int p4), .val (.long q5), .second, .val (.int p6), .val (.int (1 : Int32)), .val (.int sa), .val (.int da), .val (.ref r_126), .val (.ref b128), .val so, .val dob, .val (.ref b135), .val (.ref b135), .unset, .unset, .unset, .unset, .unset, .unset] [(.long q5), (.ref b135)])) t
          refine X158.ldc2Long hx hown (mvT hZ (w_44 hw)) (g := (mkF m 194 #[.val (.int p1), .val (.int p2), .val (.int p3), .val (.int p4), .val (.long q5), .second, .val (.int p6), .val (.int (1 : Int32)), .val (.int sa), .val (.int da), .val (.ref r_126), .val (.ref b128), .val so, .val dob, .val (.ref b135), .val (.ref b135), .unset, .unset, .unset, .unset, .unset, .unset] [(.long q5), (.ref b135)])) rfl (hb hby at_194) _ ?_
          show Steps p.tables e below (T158.setTop (mkF m 197 #[.val (.int p1), .val (.int p2), .val (.int p3), .val (.int p4), .val (.long q5), .second, .val (.int p6), .val (.int (1 : Int32)), .val (.int sa), .val (.int da), .val (.ref r_126), .val (.ref b128), .val so, .val dob, .val (.ref b135), .val (.ref b135), .unset, .unset, .unset, .unset, .unset, .unset] [(.long (-1 : Int64)), (.long q5), (.ref b135)])) t
          refine XS.lxor X158.here hx rfl (hb hby at_197) rfl ?_
          exact k
        obtain ⟨T160, h160, X160, e160, W160, st160⟩ := putF X158 hx hZ hown (host := "") (Or.inl (w_41 hw)) (Via.of (w_42 hw)) e158 F_b135_when E_b135 (Or.inl (w_43 hw)) (w_8 hw) (ty := .long) (by decide) rfl rfl (g := (mkF m 198 #[.val (.int p1), .val (.int p2), .val (.int p3), .val (.int p4), .val (.long q5), .second, .val (.int p6), .val (.int (1 : Int32)), .val (.int sa), .val (.int da), .val (.ref r_126), .val (.ref b128), .val so, .val dob, .val (.ref b135), .val (.ref b135), .unset, .unset, .unset, .unset, .unset, .unset] [(.long (q5 ^^^ (-1 : Int64))), (.ref b135)])) rfl rfl (hb hby at_198)
        refine WP.st st160 ?_
        clear st160
        replace E_b128 := E_b128.wr W160
        replace F_b128_what := F_b128_what.other W160 (Or.inl ne_b128_b135)
        replace F_b128_arg1 := F_b128_arg1.other W160 (Or.inl ne_b128_b135)
        replace F_b128_arg2 := F_b128_arg2.other W160 (Or.inl ne_b128_b135)
        replace F_b128_obj := F_b128_obj.other W160 (Or.inl ne_b128_b135)
        replace F_b128_asynchronous := F_b128_asynchronous.other W160 (Or.inl ne_b128_b135)
        replace F_b128_when := F_b128_when.other W160 (Or.inl ne_b128_b135)
        replace F_b128_callback := F_b128_callback.other W160 (Or.inl ne_b128_b135)
        replace E_b135 := E_b135.wr W160
        replace F_b135_what := F_b135_what.other W160 (Or.inr (sn_30 hw))
        replace F_b135_arg1 := F_b135_arg1.other W160 (Or.inr (sn_31 hw))
        replace F_b135_arg2 := F_b135_arg2.other W160 (Or.inr (sn_32 hw))
        replace F_b135_obj := F_b135_obj.other W160 (Or.inr (sn_33 hw))
        replace F_b135_asynchronous := F_b135_asynchronous.other W160 (Or.inr (sn_34 hw))
        replace F_b135_when := F_b135_when.same W160
        replace F_b135_callback := F_b135_callback.other W160 (Or.inr (sn_35 hw))
        replace Z0 := Nat.le_trans Z0 (Keep.of_wr W160).1
        replace NF := Fr.snoc X160 NF g_b135
        clear W160
        have hXN : ∃ LL, Stand p l e room_1 s m #[(.int p1), (.int p2), (.int p3), (.int p4), (.long q5), (.int p6)] below meth c T160 LL 3 29 ∧ Fr n0 LL := ⟨_, X160, NF⟩
        clear X160 NF
        obtain ⟨LL161, X160, NF⟩ := hXN
        show WP p.tables e below _ T160 (mkF m 201 #[.val (.int p1), .val (.int p2), .val (.int p3), .val (.int p4), .val (.long q5), .second, .val (.int p6), .val (.int (1 : Int32)), .val (.int sa), .val (.int da), .val (.ref r_126), .val (.ref b128), .val so, .val dob, .val (.ref b135), .val (.ref b135), .unset, .unset, .unset, .unset, .unset, .unset] [])
        refine WP.st (T' := T160) (f' := (mkF m 203 #[.val (.int p1), .val (.int p2), .val (.int p3), .val (.int p4), .val (.long q5), .second, .val (.int p6), .val (.int (1 : Int32)), .val (.int sa), .val (.int da), .val (.ref r_126), .val (.ref b128), .val so, .val dob, .val (.ref b135), .val (.ref b135), .unset, .unset, .unset, .unset, .unset, .unset] [(.ref b135)])) (fun t k => ?_) ?_
        · refine XS.aload X160.here hx rfl (hb hby at_201) rfl rfl ?_
          exact k
        obtain ⟨cq162, kq162, q162a, q162b, q162c⟩ := isOf hZ e160 E_b135
        obtain ⟨_, _, ⟨T162, L162, k162, n162⟩, -, X162, ⟨Lc162, hQ162, l162, y162, z162⟩, st162⟩ := X160.virtualBack hx (y := (⟨"com/example/hasten/hasten/Message", "getWhen", "()J"⟩ : MethodName)) (z := (⟨"com/example/hasten/hasten/Message", "getWhen", "()J"⟩ : MethodName)) hown (mvT hZ (w_45 hw)) (mvT hZ (w_46 hw)) (notFace_of_selects (args := #[]) (mvT hZ (w_48 hw))) (mvT hZ (w_48 hw)) (mvT hZ (w_47 hw)) (by decide) (backOf (W := 0) (rm7 l Z a0 hw [] b135 (q5 ^^^ (-1 : Int64)) h160 n0 Z0 F_b135_when) hZ (w_49 hw) (w_9 hw) (by decide) (by decide)) q162a q162c (g := (mkF m 203 #[.val (.int p1), .val (.int p2), .val (.int p3), .val (.int p4), .val (.long q5), .second, .val (.int p6), .val (.int (1 : Int32)), .val (.int sa), .val (.int da), .val (.ref r_126), .val (.ref b128), .val so, .val dob, .val (.ref b135), .val (.ref b135), .unset, .unset, .unset, .unset, .unset, .unset] [(.ref b135)])) rfl (by rw [hml]; rfl) (Steps.refl _) (argsL := []) (rest := []) (lenOf pd_5 rfl) rfl (by show 2 * 0 + _ ≤ _; exact Nat.le_of_eq rfl) (hb hby at_203) (fun _ _ => ⟨rfl, e160, (by decide : 3 + 0 ≤ _), (by decide : 29 + 0 ≤ _)⟩)
        dsimp only [Pt.U, Pt.locs, Pt.cells, Pt.slots] at X162 l162 y162 z162 st162 hQ162
        subst l162 y162 z162
        obtain ⟨rfl, Nq162, Kq162⟩ := hQ162
        replace NF := Fr.app NF Nq162
        clear Nq162
        refine WP.tr st162 ?_
        clear st162
        replace Kq162 := Kq162.trans (rfl : h160 = h160)
        have hXN : ∃ LL, Stand p l e room_1 s m #[(.int p1), (.int p2), (.int p3), (.int p4), (.long q5), (.int p6)] below meth c T162 LL 3 29 ∧ Fr n0 LL := ⟨_, X162, NF⟩
        clear X162 NF
        obtain ⟨LL163, X162, NF⟩ := hXN
        show WP p.tables e below _ T162 (mkF m 206 #[.val (.int p1), .val (.int p2), .val (.int p3), .val (.int p4), .val (.long q5), .second, .val (.int p6), .val (.int (1 : Int32)), .val (.int sa), .val (.int da), .val (.ref r_126), .val (.ref b128), .val so, .val dob, .val (.ref b135), .val (.ref b135), .unset, .unset, .unset, .unset, .unset, .unset] [(.long (q5 ^^^ (-1 : Int64)))])
        refine WP.st (T' := T162) (f' := (mkF m 210 #[.val (.int p1), .val (.int p2), .val (.int p3), .val (.int p4), .val (.long q5), .second, .val (.int p6), .val (.int (1 : Int32)), .val (.int sa), .val (.int da), .val (.ref r_126), .val (.ref b128), .val so, .val dob, .val (.ref b135), .val (.ref b135), .val (.long (q5 ^^^ (-1 : Int64))), .second, .unset, .unset, .unset, .unset] [(.ref b135)])) (fun t k => ?_) ?_
        · refine XS.lstore X162.here hx rfl (hb hby at_206) rfl (l' := #[.val (.int p1), .val (.int p2), .val (.int p3), .val (.int p4), .val (.long q5), .second, .val (.int p6), .val (.int (1 : Int32)), .val (.int sa), .val (.int da), .val (.ref r_126), .val (.ref b128), .val so, .val dob, .val (.ref b135), .val (.ref b135), .val (.long (q5 ^^^ (-1 : Int64))), .second, .unset, .unset, .unset, .unset]) rfl ?_
          show Steps p.tables e below (T162.setTop (mkF m 208 #[.val (.int p1), .val (.int p2), .val (.int p3), .val (.int p4), .val (.long q5), .second, .val (.int p6), .val (.int (1 : Int32)), .val (.int sa), .val (.int da), .val (.ref r_126), .val (.ref b128), .val so, .val dob, .val (.ref b135), .val (.ref b135), .val (.long (q5 ^^^ (-1 : Int64))), .second, .unset, .unset, .unset, .unset] [])) t
          refine XS.aload X162.here hx rfl (hb hby at_208) rfl rfl ?_
          exact k
        obtain ⟨cq164, kq164, q164a, q164b, q164c⟩ := isOf hZ Kq162 E_b135
        obtain ⟨_, _, ⟨T164, L164, k164, n164⟩, -, X164, ⟨Lc164, hQ164, l164, y164, z164⟩, st164⟩ := X162.virtualBack hx (y := (⟨"com/example/hasten/hasten/Message", "getWhen", "()J"⟩ : MethodName)) (z := (⟨"com/example/hasten/hasten/Message", "getWhen", "()J"⟩ : MethodName)) hown (mvT hZ (w_45 hw)) (mvT hZ (w_46 hw)) (notFace_of_selects (args := #[]) (mvT hZ (w_48 hw))) (mvT hZ (w_48 hw)) (mvT hZ (w_47 hw)) (by decide) (backOf (W := 0) (rm7 l Z a0 hw [] b135 (q5 ^^^ (-1 : Int64)) h160 n0 Z0 F_b135_when) hZ (w_49 hw) (w_9 hw) (by decide) (by decide)) q164a q164c (g := (mkF m 210 #[.val (.int p1), .val (.int p2), .val (.int p3), .val (.int p4), .val (.long q5), .second, .val (.int p6), .val (.int (1 : Int32)), .val (.int sa), .val (.int da), .val (.ref r_126), .val (.ref b128), .val so, .val dob, .val (.ref b135), .val (.ref b135), .val (.long (q5 ^^^ (-1 : Int64))), .second, .unset, .unset, .unset, .unset] [(.ref b135)])) rfl (by rw [hml]; rfl) (Steps.refl _) (argsL := []) (rest := []) (lenOf pd_5 rfl) rfl (by show 2 * 0 + _ ≤ _; exact Nat.le_of_eq rfl) (hb hby at_210) (fun _ _ => ⟨rfl, Kq162, (by decide : 3 + 0 ≤ _), (by decide : 29 + 0 ≤ _)⟩)
        dsimp only [Pt.U, Pt.locs, Pt.cells, Pt.slots] at X164 l164 y164 z164 st164 hQ164
        subst l164 y164 z164
        obtain ⟨rfl, Nq164, Kq164⟩ := hQ164
        replace NF := Fr.app NF Nq164
        clear Nq164
        refine WP.tr st164 ?_
        clear st164
        replace Kq164 := Kq164.trans (rfl : h160 = h160)
        have hXN : ∃ LL, Stand p l e room_1 s m #[(.int p1), (.int p2), (.int p3), (.int p4), (.long q5), (.int p6)] below meth c T164 LL 3 29 ∧ Fr n0 LL := ⟨_, X164, NF⟩
        clear X164 NF
        obtain ⟨LL165, X164, NF⟩ := hXN
        show WP p.tables e below _ T164 (mkF m 213 #[.val (.int p1), .val (.int p2), .val (.int p3), .val (.int p4), .val (.long q5), .second, .val (.int p6), .val (.int (1 : Int32)), .val (.int sa), .val (.int da), .val (.ref r_126), .val (.ref b128), .val so, .val dob, .val (.ref b135), .val (.ref b135), .val (.long (q5 ^^^ (-1 : Int64))), .second, .unset, .unset, .unset, .unset] [(.long (q5 ^^^ (-1 : Int64)))])
        refine WP.st (T' := T164) (f' := (mkF m 219 #[.val (.int p1), .val (.int p2), .val (.int p3), .val (.int p4), .val (.long q5), .second, .val (.int p6), .val (.int (1 : Int32)), .val (.int sa), .val (.int da), .val (.ref r_126), .val (.ref b128), .val so, .val dob, .val (.ref b135), .val (.ref b135), .val (.long (q5 ^^^ (-1 : Int64))), .second, .val (.long (q5 ^^^ (-1 : Int64))), .second, .unset, .unset] [(.ref b135), (.ref b135)])) (fun t k => ?_) ?_
        · refine XS.lstore X164.here hx rfl (hb hby at_213) rfl (l' := #[.val (.int p1), .val (.int p2), .val (.int p3), .val (.int p4), .val (.long q5), .second, .val (.int p6), .val (.int (1 : Int32)), .val (.int sa), .val (.int da), .val (.ref r_126), .val (.ref b128), .val so, .val dob, .val (.ref b135), .val (.ref b135), .val (.long (q5 ^^^ (-1 : Int64))), .second, .val (.long (q5 ^^^ (-1 : Int64))), .second, .unset, .unset]) rfl ?_
          show Steps p.tables e below (T164.setTop (mkF m 215 #[.val (.int p1), .val (.int p2), .val (.int p3), .val (.int p4), .val (.long q5), .second, .val (.int p6), .val (.int (1 : Int32)), .val (.int sa), .val (.int da), .val (.ref r_126), .val (.ref b128), .val so, .val dob, .val (.ref b135), .val (.ref b135), .val (.long (q5 ^^^ (-1 : Int64))), .second, .val (.long (q5 ^^^ (-1 : Int64))), .second, .unset, .unset] [])) t
          refine XS.aload X164.here hx rfl (hb hby at_215) rfl rfl ?_
          show Steps p.tables e below (T164.setTop (mkF m 217 #[.val (.int p1), .val (.int p2), .val (.int p3), .val (.int p4), .val (.long q5), .second, .val (.int p6), .val (.int (1 : Int32)), .val (.int sa), .val (.int da), .val (.ref r_126), .val (.ref b128), .val so, .val dob, .val (.ref b135), .val (.ref b135), .val (.long (q5 ^^^ (-1 : Int64))), .second, .val (.long (q5 ^^^ (-1 : Int64))), .second, .unset, .unset] [(.ref b135)])) t
          refine XS.aload X164.here hx rfl (hb hby at_217) rfl rfl ?_
          exact k
        obtain ⟨cq166, kq166, q166a, q166b, q166c⟩ := isOf hZ Kq164 E_b135
        obtain ⟨_, _, ⟨T166, L166, k166, n166⟩, -, X166, ⟨Lc166, hQ166, l166, y166, z166⟩, st166⟩ := X164.virtualBack hx (y := (⟨"com/example/hasten/hasten/Message", "copyFrom", "(Lcom/example/hasten/hasten/Message;)V"⟩ : MethodName)) (z := (⟨"com/example/hasten/hasten/Message", "copyFrom", "(Lcom/example/hasten/hasten/Message;)V"⟩ : MethodName)) hown (mvT hZ (w_51 hw)) (mvT hZ (w_52 hw)) (notFace_of_selects (args := #[]) (mvT hZ (w_54 hw))) (mvT hZ (w_54 hw)) (mvT hZ (w_53 hw)) (by decide) (backOf (W := 0) (rm8one l Z a0 hw [] b135 p1 p2 p3 so sa (q5 ^^^ (-1 : Int64)) Value.null h160 n0 Z0 E_b135 g_b135 F_b135_what F_b135_arg1 F_b135_arg2 F_b135_obj F_b135_asynchronous F_b135_when F_b135_callback (hsa : sa = 0 ∨ sa = 1) (hr_so : so.isRef = true)) hZ (w_55 hw) (w_9 hw) (by decide) (by decide)) q166a q166c (g := (mkF m 219 #[.val (.int p1), .val (.int p2), .val (.int p3), .val (.int p4), .val (.long q5), .second, .val (.int p6), .val (.int (1 : Int32)), .val (.int sa), .val (.int da), .val (.ref r_126), .val (.ref b128), .val so, .val dob, .val (.ref b135), .val (.ref b135), .val (.long (q5 ^^^ (-1 : Int64))), .second, .val (.long (q5 ^^^ (-1 : Int64))), .second, .unset, .unset] [(.ref b135), (.ref b135)])) rfl (by rw [hml]; rfl) (Steps.refl _) (argsL := [(.ref b135)]) (rest := []) (lenOf pd_6 rfl) rfl (by show 2 * 0 + _ ≤ _; exact Nat.le_of_eq rfl) (hb hby at_219) (fun _ _ => ⟨rfl, Kq164, (by decide : 3 + 0 ≤ _), (by decide : 29 + 0 ≤ _)⟩)
        dsimp only [Pt.U, Pt.locs, Pt.cells, Pt.slots] at X166 l166 y166 z166 st166 hQ166
        subst l166 y166 z166
        obtain ⟨rfl, Nq166, Kq166, nF166_b135_what, nF166_b135_arg1, nF166_b135_arg2, nF166_b135_obj, nF166_b135_asynchronous, nF166_b135_when, nF166_b135_callback⟩ := hQ166
        replace NF := Fr.app NF Nq166
        clear Nq166
        refine WP.tr st166 ?_
        clear st166
        obtain ⟨h166, e166⟩ : ∃ h, T166.heap = h := ⟨_, rfl⟩
        rw [e166] at Kq166 nF166_b135_what nF166_b135_arg1 nF166_b135_arg2 nF166_b135_obj nF166_b135_asynchronous nF166_b135_when nF166_b135_callback
        replace E_b128 := E_b128.keep Kq166
        replace F_b128_what := F_b128_what.keep Kq166 (by exact ninS ne_b128_b135 (nin0))
        replace F_b128_arg1 := F_b128_arg1.keep Kq166 (by exact ninS ne_b128_b135 (nin0))
        replace F_b128_arg2 := F_b128_arg2.keep Kq166 (by exact ninS ne_b128_b135 (nin0))
        replace F_b128_obj := F_b128_obj.keep Kq166 (by exact ninS ne_b128_b135 (nin0))
        replace F_b128_asynchronous := F_b128_asynchronous.keep Kq166 (by exact ninS ne_b128_b135 (nin0))
        replace F_b128_when := F_b128_when.keep Kq166 (by exact ninS ne_b128_b135 (nin0))
        replace F_b128_callback := F_b128_callback.keep Kq166 (by exact ninS ne_b128_b135 (nin0))
        replace E_b135 := E_b135.keep Kq166
        clear F_b135_what
        clear F_b135_arg1
        clear F_b135_arg2
        clear F_b135_obj
        clear F_b135_asynchronous
        clear F_b135_when
        clear F_b135_callback
        replace Z0 := Nat.le_trans Z0 Kq166.1
        clear Kq166
        have F_b135_what := nF166_b135_what
        clear nF166_b135_what
        have F_b135_arg1 := nF166_b135_arg1
        clear nF166_b135_arg1
        have F_b135_arg2 := nF166_b135_arg2
        clear nF166_b135_arg2
        have F_b135_obj := nF166_b135_obj
        clear nF166_b135_obj
        have F_b135_asynchronous := nF166_b135_asynchronous
        clear nF166_b135_asynchronous
        have F_b135_when := nF166_b135_when
        clear nF166_b135_when
        have F_b135_callback := nF166_b135_callback
        clear nF166_b135_callback
        have hXN : ∃ LL, Stand p l e room_1 s m #[(.int p1), (.int p2), (.int p3), (.int p4), (.long q5), (.int p6)] below meth c T166 LL 3 29 ∧ Fr n0 LL := ⟨_, X166, NF⟩
        clear X166 NF
        obtain ⟨LL167, X166, NF⟩ := hXN
        show WP p.tables e below _ T166 (mkF m 222 #[.val (.int p1), .val (.int p2), .val (.int p3), .val (.int p4), .val (.long q5), .second, .val (.int p6), .val (.int (1 : Int32)), .val (.int sa), .val (.int da), .val (.ref r_126), .val (.ref b128), .val so, .val dob, .val (.ref b135), .val (.ref b135), .val (.long (q5 ^^^ (-1 : Int64))), .second, .val (.long (q5 ^^^ (-1 : Int64))), .second, .unset, .unset] [])
        refine WP.st (T' := T166) (f' := (mkF m 224 #[.val (.int p1), .val (.int p2), .val (.int p3), .val (.int p4), .val (.long q5), .second, .val (.int p6), .val (.int (1 : Int32)), .val (.int sa), .val (.int da), .val (.ref r_126), .val (.ref b128), .val so, .val dob, .val (.ref b135), .val (.ref b135), .val (.long (q5 ^^^ (-1 : Int64))), .second, .val (.long (q5 ^^^ (-1 : Int64))), .second, .unset, .unset] [(.ref b135)])) (fun t k => ?_) ?_
        · refine XS.aload X166.here hx rfl (hb hby at_222) rfl rfl ?_
          exact k
        obtain ⟨T168, X168, e168, st168⟩ := getF X166 hx hZ hown (host := "") (Or.inl (w_25 hw)) Via.refl e166 F_b135_what (g := (mkF m 224 #[.val (.int p1), .val (.int p2), .val (.int p3), .val (.int p4), .val (.long q5), .second, .val (.int p6), .val (.int (1 : Int32)), .val (.int sa), .val (.int da), .val (.ref r_126), .val (.ref b128), .val so, .val dob, .val (.ref b135), .val (.ref b135), .val (.long (q5 ^^^ (-1 : Int64))), .second, .val (.long (q5 ^^^ (-1 : Int64))), .second, .unset, .unset] [(.ref b135)])) rfl rfl (hb hby at_224)
        refine WP.st st168 ?_
        clear st168
        show WP p.tables e below _ T168 (mkF m 227 #[.val (.int p1), .val (.int p2), .val (.int p3), .val (.int p4), .val (.long q5), .second, .val (.int p6), .val (.int (1 : Int32)), .val (.int sa), .val (.int da), .val (.ref r_126), .val (.ref b128), .val so, .val dob, .val (.ref b135), .val (.ref b135), .val (.long (q5 ^^^ (-1 : Int64))), .second, .val (.long (q5 ^^^ (-1 : Int64))), .second, .unset, .unset] [(.int p1)])
        refine WP.st (T' := T168) (f' := (mkF m 233 #[.val (.int p1), .val (.int p2), .val (.int p3), .val (.int p4), .val (.long q5), .second, .val (.int p6), .val (.int (1 : Int32)), .val (.int sa), .val (.int da), .val (.ref r_126), .val (.ref b128), .val so, .val dob, .val (.ref b135), .val (.ref b135), .val (.long (q5 ^^^ (-1 : Int64))), .second, .val (.long (q5 ^^^ (-1 : Int64))), .second, .unset, .unset] [(.ref b135)])) (fun t k => ?_) ?_
        · refine XS.iloadN X168.here hx rfl (hb hby at_227) rfl ?_
          show Steps p.tables e below (T168.setTop (mkF m 228 #[.val (.int p1), .val (.int p2), .val (.int p3), .val (.int p4), .val (.long q5), .second, .val (.int p6), .val (.int (1 : Int32)), .val (.int sa), .val (.int da), .val (.ref r_126), .val (.ref b128), .val so, .val dob, .val (.ref b135), .val (.ref b135), .val (.long (q5 ^^^ (-1 : Int64))), .second, .val (.long (q5 ^^^ (-1 : Int64))), .second, .unset, .unset] [(.int p1), (.int p1)])) t
          refine XS.icmpNo X168.here hx rfl (hb hby at_228) rfl (teq (rfl : p1 = p1)).2 ?_
          show Steps p.tables e below (T168.setTop (mkF m 231 #[.val (.int p1), .val (.int p2), .val (.int p3), .val (.int p4), .val (.long q5), .second, .val (.int p6), .val (.int (1 : Int32)), .val (.int sa), .val (.int da), .val (.ref r_126), .val (.ref b128), .val so, .val dob, .val (.ref b135), .val (.ref b135), .val (.long (q5 ^^^ (-1 : Int64))), .second, .val (.long (q5 ^^^ (-1 : Int64))), .second, .unset, .unset] [])) t
          refine XS.aload X168.here hx rfl (hb hby at_231) rfl rfl ?_
          exact k
        obtain ⟨T169, X169, e169, st169⟩ := getF X168 hx hZ hown (host := "") (Or.inl (w_27 hw)) Via.refl e168 F_b135_arg1 (g := (mkF m 233 #[.val (.int p1), .val (.int p2), .val (.int p3), .val (.int p4), .val (.long q5), .second, .val (.int p6), .val (.int (1 : Int32)), .val (.int sa), .val (.int da), .val (.ref r_126), .val (.ref b128), .val so, .val dob, .val (.ref b135), .val (.ref b135), .val (.long (q5 ^^^ (-1 : Int64))), .second, .val (.long (q5 ^^^ (-1 : Int64))), .second, .unset, .unset] [(.ref b135)])) rfl rfl (hb hby at_233)
        refine WP.st st169 ?_
        clear st169
        show WP p.tables e below _ T169 (mkF m 236 #[.val (.int p1), .val (.int p2), .val (.int p3), .val (.int p4), .val (.long q5), .second, .val (.int p6), .val (.int (1 : Int32)), .val (.int sa), .val (.int da), .val (.ref r_126), .val (.ref b128), .val so, .val dob, .val (.ref b135), .val (.ref b135), .val (.long (q5 ^^^ (-1 : Int64))), .second, .val (.long (q5 ^^^ (-1 : Int64))), .second, .unset, .unset] [(.int p2)])
        refine WP.st (T' := T169) (f' := (mkF m 242 #[.val (.int p1), .val (.int p2), .val (.int p3), .val (.int p4), .val (.long q5), .second, .val (.int p6), .val (.int (1 : Int32)), .val (.int sa), .val (.int da), .val (.ref r_126), .val (.ref b128), .val so, .val dob, .val (.ref b135), .val (.ref b135), .val (.long (q5 ^^^ (-1 : Int64))), .second, .val (.long (q5 ^^^ (-1 : Int64))), .second, .unset, .unset] [(.ref b135)])) (fun t k => ?_) ?_
        · refine XS.iloadN X169.here hx rfl (hb hby at_236) rfl ?_
          show Steps p.tables e below (T169.setTop (mkF m 237 #[.val (.int p1), .val (.int p2), .val (.int p3), .val (.int p4), .val (.long q5), .second, .val (.int p6), .val (.int (1 : Int32)), .val (.int sa), .val (.int da), .val (.ref r_126), .val (.ref b128), .val so, .val dob, .val (.ref b135), .val (.ref b135), .val (.long (q5 ^^^ (-1 : Int64))), .second, .val (.long (q5 ^^^ (-1 : Int64))), .second, .unset, .unset] [(.int p2), (.int p2)])) t
          refine XS.icmpNo X169.here hx rfl (hb hby at_237) rfl (teq (rfl : p2 = p2)).2 ?_
          show Steps p.tables e below (T169.setTop (mkF m 240 #[.val (.int p1), .val (.int p2), .val (.int p3), .val (.int p4), .val (.long q5), .second, .val (.int p6), .val (.int (1 : Int32)), .val (.int sa), .val (.int da), .val (.ref r_126), .val (.ref b128), .val so, .val dob, .val (.ref b135), .val (.ref b135), .val (.long (q5 ^^^ (-1 : Int64))), .second, .val (.long (q5 ^^^ (-1 : Int64))), .second, .unset, .unset] [])) t
          refine XS.aload X169.here hx rfl (hb hby at_240) rfl rfl ?_
          exact k
        obtain ⟨T170, X170, e170, st170⟩ := getF X169 hx hZ hown (host := "") (Or.inl (w_29 hw)) Via.refl e169 F_b135_arg2 (g := (mkF m 242 #[.val (.int p1), .val (.int p2), .val (.int p3), .val (.int p4), .val (.long q5), .second, .val (.int p6), .val (.int (1 : Int32)), .val (.int sa), .val (.int da), .val (.ref r_126), .val (.ref b128), .val so, .val dob, .val (.ref b135), .val (.ref b135), .val (.long (q5 ^^^ (-1 : Int64))), .second, .val (.long (q5 ^^^ (-1 : Int64))), .second, .unset, .unset] [(.ref b135)])) rfl rfl (hb hby at_242)
        refine WP.st st170 ?_
        clear st170
        show WP p.tables e below _ T170 (mkF m 245 #[.val (.int p1), .val (.int p2), .val (.int p3), .val (.int p4), .val (.long q5), .second, .val (.int p6), .val (.int (1 : Int32)), .val (.int sa), .val (.int da), .val (.ref r_126), .val (.ref b128), .val so, .val dob, .val (.ref b135), .val (.ref b135), .val (.long (q5 ^^^ (-1 : Int64))), .second, .val (.long (q5 ^^^ (-1 : Int64))), .second, .unset, .unset] [(.int p3)])
        refine WP.st (T' := T170) (f' := (mkF m 251 #[.val (.int p1), .val (.int p2), .val (.int p3), .val (.int p4), .val (.long q5), .second, .val (.int p6), .val (.int (1 : Int32)), .val (.int sa), .val (.int da), .val (.ref r_126), .val (.ref b128), .val so, .val dob, .val (.ref b135), .val (.ref b135), .val (.long (q5 ^^^ (-1 : Int64))), .second, .val (.long (q5 ^^^ (-1 : Int64))), .second, .unset, .unset] [(.ref b135)])) (fun t k => ?_) ?_
        · refine XS.iloadN X170.here hx rfl (hb hby at_245) rfl ?_
          show Steps p.tables e below (T170.setTop (mkF m 246 #[.val (.int p1), .val (.int p2), .val (.int p3), .val (.int p4), .val (.long q5), .second, .val (.int p6), .val (.int (1 : Int32)), .val (.int sa), .val (.int da), .val (.ref r_126), .val (.ref b128), .val so, .val dob, .val (.ref b135), .val (.ref b135), .val (.long (q5 ^^^ (-1 : Int64))), .second, .val (.long (q5 ^^^ (-1 : Int64))), .second, .unset, .unset] [(.int p3), (.int p3)])) t
          refine XS.icmpNo X170.here hx rfl (hb hby at_246) rfl (teq (rfl : p3 = p3)).2 ?_
          show Steps p.tables e below (T170.setTop (mkF m 249 #[.val (.int p1), .val (.int p2), .val (.int p3), .val (.int p4), .val (.long q5), .second, .val (.int p6), .val (.int (1 : Int32)), .val (.int sa), .val (.int da), .val (.ref r_126), .val (.ref b128), .val so, .val dob, .val (.ref b135), .val (.ref b135), .val (.long (q5 ^^^ (-1 : Int64))), .second, .val (.long (q5 ^^^ (-1 : Int64))), .second, .unset, .unset] [])) t
          refine XS.aload X170.here hx rfl (hb hby at_249) rfl rfl ?_
          exact k
        obtain ⟨T171, X171, e171, st171⟩ := getF X170 hx hZ hown (host := "") (Or.inl (w_31 hw)) Via.refl e170 F_b135_obj (g := (mkF m 251 #[.val (.int p1), .val (.int p2), .val (.int p3), .val (.int p4), .val (.long q5), .second, .val (.int p6), .val (.int (1 : Int32)), .val (.int sa), .val (.int da), .val (.ref r_126), .val (.ref b128), .val so, .val dob, .val (.ref b135), .val (.ref b135), .val (.long (q5 ^^^ (-1 : Int64))), .second, .val (.long (q5 ^^^ (-1 : Int64))), .second, .unset, .unset] [(.ref b135)])) rfl rfl (hb hby at_251)
        refine WP.st st171 ?_
        clear st171
        show WP p.tables e below _ T171 (mkF m 254 #[.val (.int p1), .val (.int p2), .val (.int p3), .val (.int p4), .val (.long q5), .second, .val (.int p6), .val (.int (1 : Int32)), .val (.int sa), .val (.int da), .val (.ref r_126), .val (.ref b128), .val so, .val dob, .val (.ref b135), .val (.ref b135), .val (.long (q5 ^^^ (-1 : Int64))), .second, .val (.long (q5 ^^^ (-1 : Int64))), .second, .unset, .unset] [so])
        refine WP.st (T' := T171) (f' := (mkF m 256 #[.val (.int p1), .val (.int p2), .val (.int p3), .val (.int p4), .val (.long q5), .second, .val (.int p6), .val (.int (1 : Int32)), .val (.int sa), .val (.int da), .val (.ref r_126), .val (.ref b128), .val so, .val dob, .val (.ref b135), .val (.ref b135), .val (.long (q5 ^^^ (-1 : Int64))), .second, .val (.long (q5 ^^^ (-1 : Int64))), .second, .unset, .unset] [so, so])) (fun t k => ?_) ?_
        · refine XS.aload X171.here hx rfl (hb hby at_254) rfl hr_so ?_
          exact k
        refine WP.st (T' := T171) (f' := (mkF m 261 #[.val (.int p1), .val (.int p2), .val (.int p3), .val (.int p4), .val (.long q5), .second, .val (.int p6), .val (.int (1 : Int32)), .val (.int sa), .val (.int da), .val (.ref r_126), .val (.ref b128), .val so, .val dob, .val (.ref b135), .val (.ref b135), .val (.long (q5 ^^^ (-1 : Int64))), .second, .val (.long (q5 ^^^ (-1 : Int64))), .second, .unset, .unset] [(.ref b135)])) (fun t k => ?_) ?_
        · refine Jvm.RoadKit.acmp (g := (mkF m 256 #[.val (.int p1), .val (.int p2), .val (.int p3), .val (.int p4), .val (.long q5), .second, .val (.int p6), .val (.int (1 : Int32)), .val (.int sa), .val (.int da), .val (.ref r_126), .val (.ref b128), .val so, .val dob, .val (.ref b135), .val (.ref b135), .val (.long (q5 ^^^ (-1 : Int64))), .second, .val (.long (q5 ^^^ (-1 : Int64))), .second, .unset, .unset] [so, so])) X171 hx rfl hr_so hr_so (pc0 := 256) (pc' := 259) (same := true) rfl (hb hby at_256) rfl (decide_eq_true rfl) (by decide) (by decide) ?_
          show Steps p.tables e below (T171.setTop (mkF m 259 #[.val (.int p1), .val (.int p2), .val (.int p3), .val (.int p4), .val (.long q5), .second, .val (.int p6), .val (.int (1 : Int32)), .val (.int sa), .val (.int da), .val (.ref r_126), .val (.ref b128), .val so, .val dob, .val (.ref b135), .val (.ref b135), .val (.long (q5 ^^^ (-1 : Int64))), .second, .val (.long (q5 ^^^ (-1 : Int64))), .second, .unset, .unset] [])) t
          refine XS.aload X171.here hx rfl (hb hby at_259) rfl rfl ?_
          exact k
        obtain ⟨cq172, kq172, q172a, q172b, q172c⟩ := isOf hZ e171 E_b135
        obtain ⟨_, _, ⟨T172, L172, k172, n172⟩, -, X172, ⟨Lc172, hQ172, l172, y172, z172⟩, st172⟩ := X171.virtualBack hx (y := (⟨"com/example/hasten/hasten/Message", "isAsynchronous", "()Z"⟩ : MethodName)) (z := (⟨"com/example/hasten/hasten/Message", "isAsynchronous", "()Z"⟩ : MethodName)) hown (mvT hZ (w_60 hw)) (mvT hZ (w_61 hw)) (notFace_of_selects (args := #[]) (mvT hZ (w_63 hw))) (mvT hZ (w_63 hw)) (mvT hZ (w_62 hw)) (by decide) (backOf (W := 0) (rm9 l Z a0 hw [] b135 sa h166 n0 Z0 F_b135_asynchronous) hZ (w_64 hw) (w_9 hw) (by decide) (by decide)) q172a q172c (g := (mkF m 261 #[.val (.int p1), .val (.int p2), .val (.int p3), .val (.int p4), .val (.long q5), .second, .val (.int p6), .val (.int (1 : Int32)), .val (.int sa), .val (.int da), .val (.ref r_126), .val (.ref b128), .val so, .val dob, .val (.ref b135), .val (.ref b135), .val (.long (q5 ^^^ (-1 : Int64))), .second, .val (.long (q5 ^^^ (-1 : Int64))), .second, .unset, .unset] [(.ref b135)])) rfl (by rw [hml]; rfl) (Steps.refl _) (argsL := []) (rest := []) (lenOf pd_7 rfl) rfl (by show 2 * 0 + _ ≤ _; exact Nat.le_of_eq rfl) (hb hby at_261) (fun _ _ => ⟨rfl, e171, (by decide : 3 + 0 ≤ _), (by decide : 29 + 0 ≤ _)⟩)
        dsimp only [Pt.U, Pt.locs, Pt.cells, Pt.slots] at X172 l172 y172 z172 st172 hQ172
        subst l172 y172 z172
        obtain ⟨rfl, Nq172, Kq172⟩ := hQ172
        replace NF := Fr.app NF Nq172
        clear Nq172
        refine WP.tr st172 ?_
        clear st172
        replace Kq172 := Kq172.trans (rfl : h166 = h166)
        have hXN : ∃ LL, Stand p l e room_1 s m #[(.int p1), (.int p2), (.int p3), (.int p4), (.long q5), (.int p6)] below meth c T172 LL 3 29 ∧ Fr n0 LL := ⟨_, X172, NF⟩
        clear X172 NF
        obtain ⟨LL173, X172, NF⟩ := hXN
        show WP p.tables e below _ T172 (mkF m 264 #[.val (.int p1), .val (.int p2), .val (.int p3), .val (.int p4), .val (.long q5), .second, .val (.int p6), .val (.int (1 : Int32)), .val (.int sa), .val (.int da), .val (.ref r_126), .val (.ref b128), .val so, .val dob, .val (.ref b135), .val (.ref b135), .val (.long (q5 ^^^ (-1 : Int64))), .second, .val (.long (q5 ^^^ (-1 : Int64))), .second, .unset, .unset] [(.int (nar .boolean sa))])
        refine WP.st (T' := T172) (f' := (mkF m 271 #[.val (.int p1), .val (.int p2), .val (.int p3), .val (.int p4), .val (.long q5), .second, .val (.int p6), .val (.int (1 : Int32)), .val (.int sa), .val (.int da), .val (.ref r_126), .val (.ref b128), .val so, .val dob, .val (.ref b135), .val (.ref b135), .val (.long (q5 ^^^ (-1 : Int64))), .second, .val (.long (q5 ^^^ (-1 : Int64))), .second, .unset, .unset] [(.ref b135)])) (fun t k => ?_) ?_
        · refine XS.iload X172.here hx rfl (hb hby at_264) rfl ?_
          show Steps p.tables e below (T172.setTop (mkF m 266 #[.val (.int p1), .val (.int p2), .val (.int p3), .val (.int p4), .val (.long q5), .second, .val (.int p6), .val (.int (1 : Int32)), .val (.int sa), .val (.int da), .val (.ref r_126), .val (.ref b128), .val so, .val dob, .val (.ref b135), .val (.ref b135), .val (.long (q5 ^^^ (-1 : Int64))), .second, .val (.long (q5 ^^^ (-1 : Int64))), .second, .unset, .unset] [(.int sa), (.int (nar .boolean sa))])) t
          refine XS.icmpNo X172.here hx rfl (hb hby at_266) rfl (teq (nar01 hsa)).2 ?_
          show Steps p.tables e below (T172.setTop (mkF m 269 #[.val (.int p1), .val (.int p2), .val (.int p3), .val (.int p4), .val (.long q5), .second, .val (.int p6), .val (.int (1 : Int32)), .val (.int sa), .val (.int da), .val (.ref r_126), .val (.ref b128), .val so, .val dob, .val (.ref b135), .val (.ref b135), .val (.long (q5 ^^^ (-1 : Int64))), .second, .val (.long (q5 ^^^ (-1 : Int64))), .second, .unset, .unset] [])) t
          refine XS.aload X172.here hx rfl (hb hby at_269) rfl rfl ?_
          exact k
        obtain ⟨cq174, kq174, q174a, q174b, q174c⟩ := isOf hZ Kq172 E_b135
        obtain ⟨_, _, ⟨T174, L174, k174, n174⟩, -, X174, ⟨Lc174, hQ174, l174, y174, z174⟩, st174⟩ := X172.virtualBack hx (y := (⟨"com/example/hasten/hasten/Message", "getWhen", "()J"⟩ : MethodName)) (z := (⟨"com/example/hasten/hasten/Message", "getWhen", "()J"⟩ : MethodName)) hown (mvT hZ (w_45 hw)) (mvT hZ (w_46 hw)) (notFace_of_selects (args := #[]) (mvT hZ (w_48 hw))) (mvT hZ (w_48 hw)) (mvT hZ (w_47 hw)) (by decide) (backOf (W := 0) (rm7 l Z a0 hw [] b135 (q5 ^^^ (-1 : Int64)) h166 n0 Z0 F_b135_when) hZ (w_49 hw) (w_9 hw) (by decide) (by decide)) q174a q174c (g := (mkF m 271 #[.val (.int p1), .val (.int p2), .val (.int p3), .val (.int p4), .val (.long q5), .second, .val (.int p6), .val (.int (1 : Int32)), .val (.int sa), .val (.int da), .val (.ref r_126), .val (.ref b128), .val so, .val dob, .val (.ref b135), .val (.ref b135), .val (.long (q5 ^^^ (-1 : Int64))), .second, .val (.long (q5 ^^^ (-1 : Int64))), .second, .unset, .unset] [(.ref b135)])) rfl (by rw [hml]; rfl) (Steps.refl _) (argsL := []) (rest := []) (lenOf pd_5 rfl) rfl (by show 2 * 0 + _ ≤ _; exact Nat.le_of_eq rfl) (hb hby at_271) (fun _ _ => ⟨rfl, Kq172, (by decide : 3 + 0 ≤ _), (by decide : 29 + 0 ≤ _)⟩)
        dsimp only [Pt.U, Pt.locs, Pt.cells, Pt.slots] at X174 l174 y174 z174 st174 hQ174
        subst l174 y174 z174
        obtain ⟨rfl, Nq174, Kq174⟩ := hQ174
        replace NF := Fr.app NF Nq174
        clear Nq174
        refine WP.tr st174 ?_
        clear st174
        replace Kq174 := Kq174.trans (rfl : h166 = h166)
        have hXN : ∃ LL, Stand p l e room_1 s m #[(.int p1), (.int p2), (.int p3), (.int p4), (.long q5), (.int p6)] below meth c T174 LL 3 29 ∧ Fr n0 LL := ⟨_, X174, NF⟩
        clear X174 NF
        obtain ⟨LL175, X174, NF⟩ := hXN
        show WP p.tables e below _ T174 (mkF m 274 #[.val (.int p1), .val (.int p2), .val (.int p3), .val (.int p4), .val (.long q5), .second, .val (.int p6), .val (.int (1 : Int32)), .val (.int sa), .val (.int da), .val (.ref r_126), .val (.ref b128), .val so, .val dob, .val (.ref b135), .val (.ref b135), .val (.long (q5 ^^^ (-1 : Int64))), .second, .val (.long (q5 ^^^ (-1 : Int64))), .second, .unset, .unset] [(.long (q5 ^^^ (-1 : Int64)))])
        refine WP.st (T' := T174) (f' := (mkF m 282 #[.val (.int p1), .val (.int p2), .val (.int p3), .val (.int p4), .val (.long q5), .second, .val (.int p6), .val (.int (1 : Int32)), .val (.int sa), .val (.int da), .val (.ref r_126), .val (.ref b128), .val so, .val dob, .val (.ref b135), .val (.ref b135), .val (.long (q5 ^^^ (-1 : Int64))), .second, .val (.long (q5 ^^^ (-1 : Int64))), .second, .unset, .unset] [(.ref b135)])) (fun t k => ?_) ?_
        · refine XS.lload X174.here hx rfl (hb hby at_274) rfl ?_
          show Steps p.tables e below (T174.setTop (mkF m 276 #[.val (.int p1), .val (.int p2), .val (.int p3), .val (.int p4), .val (.long q5), .second, .val (.int p6), .val (.int (1 : Int32)), .val (.int sa), .val (.int da), .val (.ref r_126), .val (.ref b128), .val so, .val dob, .val (.ref b135), .val (.ref b135), .val (.long (q5 ^^^ (-1 : Int64))), .second, .val (.long (q5 ^^^ (-1 : Int64))), .second, .unset, .unset] [(.long (q5 ^^^ (-1 : Int64))), (.long (q5 ^^^ (-1 : Int64)))])) t
          refine XS.lcmp X174.here hx rfl (hb hby at_276) rfl ?_
          show Steps p.tables e below (T174.setTop (mkF m 277 #[.val (.int p1), .val (.int p2), .val (.int p3), .val (.int p4), .val (.long q5), .second, .val (.int p6), .val (.int (1 : Int32)), .val (.int sa), .val (.int da), .val (.ref r_126), .val (.ref b128), .val so, .val dob, .val (.ref b135), .val (.ref b135), .val (.long (q5 ^^^ (-1 : Int64))), .second, .val (.long (q5 ^^^ (-1 : Int64))), .second, .unset, .unset] [(.int (lcmpW (q5 ^^^ (-1 : Int64)) (q5 ^^^ (-1 : Int64))))])) t
          refine XS.ifNo X174.here hx rfl (hb hby at_277) rfl ((if0 _ _).trans (teq ((lw_eq _ _).2 rfl)).2) ?_
          show Steps p.tables e below (T174.setTop (mkF m 280 #[.val (.int p1), .val (.int p2), .val (.int p3), .val (.int p4), .val (.long q5), .second, .val (.int p6), .val (.int (1 : Int32)), .val (.int sa), .val (.int da), .val (.ref r_126), .val (.ref b128), .val so, .val dob, .val (.ref b135), .val (.ref b135), .val (.long (q5 ^^^ (-1 : Int64))), .second, .val (.long (q5 ^^^ (-1 : Int64))), .second, .unset, .unset] [])) t
          refine XS.aload X174.here hx rfl (hb hby at_280) rfl rfl ?_
          exact k
        obtain ⟨cq176, kq176, q176a, q176b, q176c⟩ := isOf hZ Kq174 E_b135
        obtain ⟨_, _, ⟨T176, L176, k176, n176⟩, -, X176, ⟨Lc176, hQ176, l176, y176, z176⟩, st176⟩ := X174.virtualBack hx (y := (⟨"com/example/hasten/hasten/Message", "getCallback", "()Ljava/lang/Runnable;"⟩ : MethodName)) (z := (⟨"com/example/hasten/hasten/Message", "getCallback", "()Ljava/lang/Runnable;"⟩ : MethodName)) hown (mvT hZ (w_65 hw)) (mvT hZ (w_66 hw)) (notFace_of_selects (args := #[]) (mvT hZ (w_68 hw))) (mvT hZ (w_68 hw)) (mvT hZ (w_67 hw)) (by decide) (backOf (W := 0) (rm10 l Z a0 hw [] b135 h166 n0 Z0 F_b135_callback) hZ (w_69 hw) (w_9 hw) (by decide) (by decide)) q176a q176c (g := (mkF m 282 #[.val (.int p1), .val (.int p2), .val (.int p3), .val (.int p4), .val (.long q5), .second, .val (.int p6), .val (.int (1 : Int32)), .val (.int sa), .val (.int da), .val (.ref r_126), .val (.ref b128), .val so, .val dob, .val (.ref b135), .val (.ref b135), .val (.long (q5 ^^^ (-1 : Int64))), .second, .val (.long (q5 ^^^ (-1 : Int64))), .second, .unset, .unset] [(.ref b135)])) rfl (by rw [hml]; rfl) (Steps.refl _) (argsL := []) (rest := []) (lenOf pd_8 rfl) rfl (by show 2 * 0 + _ ≤ _; exact Nat.le_of_eq rfl) (hb hby at_282) (fun _ _ => ⟨rfl, Kq174, (by decide : 3 + 0 ≤ _), (by decide : 29 + 0 ≤ _)⟩)
        dsimp only [Pt.U, Pt.locs, Pt.cells, Pt.slots] at X176 l176 y176 z176 st176 hQ176
        subst l176 y176 z176
        obtain ⟨rfl, Nq176, Kq176⟩ := hQ176
        replace NF := Fr.app NF Nq176
        clear Nq176
        refine WP.tr st176 ?_
        clear st176
        replace Kq176 := Kq176.trans (rfl : h166 = h166)
        have hXN : ∃ LL, Stand p l e room_1 s m #[(.int p1), (.int p2), (.int p3), (.int p4), (.long q5), (.int p6)] below meth c T176 LL 3 29 ∧ Fr n0 LL := ⟨_, X176, NF⟩
        clear X176 NF
        obtain ⟨LL177, X176, NF⟩ := hXN
        show WP p.tables e below _ T176 (mkF m 285 #[.val (.int p1), .val (.int p2), .val (.int p3), .val (.int p4), .val (.long q5), .second, .val (.int p6), .val (.int (1 : Int32)), .val (.int sa), .val (.int da), .val (.ref r_126), .val (.ref b128), .val so, .val dob, .val (.ref b135), .val (.ref b135), .val (.long (q5 ^^^ (-1 : Int64))), .second, .val (.long (q5 ^^^ (-1 : Int64))), .second, .unset, .unset] [.null])
        refine WP.st (T' := T176) (f' := (mkF m 297 #[.val (.int p1), .val (.int p2), .val (.int p3), .val (.int p4), .val (.long q5), .second, .val (.int p6), .val (.int (1 : Int32)), .val (.int sa), .val (.int da), .val (.ref r_126), .val (.ref b128), .val so, .val dob, .val (.ref b135), .val (.ref b135), .val (.long (q5 ^^^ (-1 : Int64))), .second, .val (.long (q5 ^^^ (-1 : Int64))), .second, .val (.int (1 : Int32)), .unset] [(.ref b135)])) (fun t k => ?_) ?_
        · refine XS.ifnonnullNo X176.here hx rfl (hb hby at_285) rfl ?_
          show Steps p.tables e below (T176.setTop (mkF m 288 #[.val (.int p1), .val (.int p2), .val (.int p3), .val (.int p4), .val (.long q5), .second, .val (.int p6), .val (.int (1 : Int32)), .val (.int sa), .val (.int da), .val (.ref r_126), .val (.ref b128), .val so, .val dob, .val (.ref b135), .val (.ref b135), .val (.long (q5 ^^^ (-1 : Int64))), .second, .val (.long (q5 ^^^ (-1 : Int64))), .second, .unset, .unset] [])) t
          refine XS.iconst X176.here hx rfl (hb hby at_288) ?_
          show Steps p.tables e below (T176.setTop (mkF m 289 #[.val (.int p1), .val (.int p2), .val (.int p3), .val (.int p4), .val (.long q5), .second, .val (.int p6), .val (.int (1 : Int32)), .val (.int sa), .val (.int da), .val (.ref r_126), .val (.ref b128), .val so, .val dob, .val (.ref b135), .val (.ref b135), .val (.long (q5 ^^^ (-1 : Int64))), .second, .val (.long (q5 ^^^ (-1 : Int64))), .second, .unset, .unset] [(.int (1 : Int32))])) t
          refine XS.goto X176.here hx rfl (pc0 := 289) (pc' := 293) rfl (hb hby at_289) (by decide) (by decide) ?_
          show Steps p.tables e below (T176.setTop (mkF m 293 #[.val (.int p1), .val (.int p2), .val (.int p3), .val (.int p4), .val (.long q5), .second, .val (.int p6), .val (.int (1 : Int32)), .val (.int sa), .val (.int da), .val (.ref r_126), .val (.ref b128), .val so, .val dob, .val (.ref b135), .val (.ref b135), .val (.long (q5 ^^^ (-1 : Int64))), .second, .val (.long (q5 ^^^ (-1 : Int64))), .second, .unset, .unset] [(.int (1 : Int32))])) t
          refine XS.istore X176.here hx rfl (hb hby at_293) rfl (l' := #[.val (.int p1), .val (.int p2), .val (.int p3), .val (.int p4), .val (.long q5), .second, .val (.int p6), .val (.int (1 : Int32)), .val (.int sa), .val (.int da), .val (.ref r_126), .val (.ref b128), .val so, .val dob, .val (.ref b135), .val (.ref b135), .val (.long (q5 ^^^ (-1 : Int64))), .second, .val (.long (q5 ^^^ (-1 : Int64))), .second, .val (.int (1 : Int32)), .unset]) rfl ?_
          show Steps p.tables e below (T176.setTop (mkF m 295 #[.val (.int p1), .val (.int p2), .val (.int p3), .val (.int p4), .val (.long q5), .second, .val (.int p6), .val (.int (1 : Int32)), .val (.int sa), .val (.int da), .val (.ref r_126), .val (.ref b128), .val so, .val dob, .val (.ref b135), .val (.ref b135), .val (.long (q5 ^^^ (-1 : Int64))), .second, .val (.long (q5 ^^^ (-1 : Int64))), .second, .val (.int (1 : Int32)), .unset] [])) t
          refine XS.aload X176.here hx rfl (hb hby at_295) rfl rfl ?_
          exact k
        obtain ⟨T178, X178, e178, st178⟩ := getF X176 hx hZ hown (host := "") (Or.inl (w_25 hw)) Via.refl Kq176 F_b135_what (g := (mkF m 297 #[.val (.int p1), .val (.int p2), .val (.int p3), .val (.int p4), .val (.long q5), .second, .val (.int p6), .val (.int (1 : Int32)), .val (.int sa), .val (.int da), .val (.ref r_126), .val (.ref b128), .val so, .val dob, .val (.ref b135), .val (.ref b135), .val (.long (q5 ^^^ (-1 : Int64))), .second, .val (.long (q5 ^^^ (-1 : Int64))), .second, .val (.int (1 : Int32)), .unset] [(.ref b135)])) rfl rfl (hb hby at_297)
        refine WP.st st178 ?_
        clear st178
        show WP p.tables e below _ T178 (mkF m 300 #[.val (.int p1), .val (.int p2), .val (.int p3), .val (.int p4), .val (.long q5), .second, .val (.int p6), .val (.int (1 : Int32)), .val (.int sa), .val (.int da), .val (.ref r_126), .val (.ref b128), .val so, .val dob, .val (.ref b135), .val (.ref b135), .val (.long (q5 ^^^ (-1 : Int64))), .second, .val (.long (q5 ^^^ (-1 : Int64))), .second, .val (.int (1 : Int32)), .unset] [(.int p1)])
        refine WP.st (T' := T178) (f' := (mkF m 306 #[.val (.int p1), .val (.int p2), .val (.int p3), .val (.int p4), .val (.long q5), .second, .val (.int p6), .val (.int (1 : Int32)), .val (.int sa), .val (.int da), .val (.ref r_126), .val (.ref b128), .val so, .val dob, .val (.ref b135), .val (.ref b135), .val (.long (q5 ^^^ (-1 : Int64))), .second, .val (.long (q5 ^^^ (-1 : Int64))), .second, .val (.int (1 : Int32)), .unset] [(.ref b135)])) (fun t k => ?_) ?_
        · refine XS.iloadN X178.here hx rfl (hb hby at_300) rfl ?_
          show Steps p.tables e below (T178.setTop (mkF m 301 #[.val (.int p1), .val (.int p2), .val (.int p3), .val (.int p4), .val (.long q5), .second, .val (.int p6), .val (.int (1 : Int32)), .val (.int sa), .val (.int da), .val (.ref r_126), .val (.ref b128), .val so, .val dob, .val (.ref b135), .val (.ref b135), .val (.long (q5 ^^^ (-1 : Int64))), .second, .val (.long (q5 ^^^ (-1 : Int64))), .second, .val (.int (1 : Int32)), .unset] [(.int p1), (.int p1)])) t
          refine XS.icmpNo X178.here hx rfl (hb hby at_301) rfl (teq (rfl : p1 = p1)).2 ?_
          show Steps p.tables e below (T178.setTop (mkF m 304 #[.val (.int p1), .val (.int p2), .val (.int p3), .val (.int p4), .val (.long q5), .second, .val (.int p6), .val (.int (1 : Int32)), .val (.int sa), .val (.int da), .val (.ref r_126), .val (.ref b128), .val so, .val dob, .val (.ref b135), .val (.ref b135), .val (.long (q5 ^^^ (-1 : Int64))), .second, .val (.long (q5 ^^^ (-1 : Int64))), .second, .val (.int (1 : Int32)), .unset] [])) t
          refine XS.aload X178.here hx rfl (hb hby at_304) rfl rfl ?_
          exact k
        obtain ⟨T179, X179, e179, st179⟩ := getF X178 hx hZ hown (host := "") (Or.inl (w_27 hw)) Via.refl e178 F_b135_arg1 (g := (mkF m 306 #[.val (.int p1), .val (.int p2), .val (.int p3), .val (.int p4), .val (.long q5), .second, .val (.int p6), .val (.int (1 : Int32)), .val (.int sa), .val (.int da), .val (.ref r_126), .val (.ref b128), .val so, .val dob, .val (.ref b135), .val (.ref b135), .val (.long (q5 ^^^ (-1 : Int64))), .second, .val (.long (q5 ^^^ (-1 : Int64))), .second, .val (.int (1 : Int32)), .unset] [(.ref b135)])) rfl rfl (hb hby at_306)
        refine WP.st st179 ?_
        clear st179
        show WP p.tables e below _ T179 (mkF m 309 #[.val (.int p1), .val (.int p2), .val (.int p3), .val (.int p4), .val (.long q5), .second, .val (.int p6), .val (.int (1 : Int32)), .val (.int sa), .val (.int da), .val (.ref r_126), .val (.ref b128), .val so, .val dob, .val (.ref b135), .val (.ref b135), .val (.long (q5 ^^^ (-1 : Int64))), .second, .val (.long (q5 ^^^ (-1 : Int64))), .second, .val (.int (1 : Int32)), .unset] [(.int p2)])
        refine WP.st (T' := T179) (f' := (mkF m 315 #[.val (.int p1), .val (.int p2), .val (.int p3), .val (.int p4), .val (.long q5), .second, .val (.int p6), .val (.int (1 : Int32)), .val (.int sa), .val (.int da), .val (.ref r_126), .val (.ref b128), .val so, .val dob, .val (.ref b135), .val (.ref b135), .val (.long (q5 ^^^ (-1 : Int64))), .second, .val (.long (q5 ^^^ (-1 : Int64))), .second, .val (.int (1 : Int32)), .unset] [(.ref b135)])) (fun t k => ?_) ?_
        · refine XS.iloadN X179.here hx rfl (hb hby at_309) rfl ?_
          show Steps p.tables e below (T179.setTop (mkF m 310 #[.val (.int p1), .val (.int p2), .val (.int p3), .val (.int p4), .val (.long q5), .second, .val (.int p6), .val (.int (1 : Int32)), .val (.int sa), .val (.int da), .val (.ref r_126), .val (.ref b128), .val so, .val dob, .val (.ref b135), .val (.ref b135), .val (.long (q5 ^^^ (-1 : Int64))), .second, .val (.long (q5 ^^^ (-1 : Int64))), .second, .val (.int (1 : Int32)), .unset] [(.int p2), (.int p2)])) t
          refine XS.icmpNo X179.here hx rfl (hb hby at_310) rfl (teq (rfl : p2 = p2)).2 ?_
          show Steps p.tables e below (T179.setTop (mkF m 313 #[.val (.int p1), .val (.int p2), .val (.int p3), .val (.int p4), .val (.long q5), .second, .val (.int p6), .val (.int (1 : Int32)), .val (.int sa), .val (.int da), .val (.ref r_126), .val (.ref b128), .val so, .val dob, .val (.ref b135), .val (.ref b135), .val (.long (q5 ^^^ (-1 : Int64))), .second, .val (.long (q5 ^^^ (-1 : Int64))), .second, .val (.int (1 : Int32)), .unset] [])) t
          refine XS.aload X179.here hx rfl (hb hby at_313) rfl rfl ?_
          exact k
        obtain ⟨T180, X180, e180, st180⟩ := getF X179 hx hZ hown (host := "") (Or.inl (w_29 hw)) Via.refl e179 F_b135_arg2 (g := (mkF m 315 #[.val (.int p1), .val (.int p2), .val (.int p3), .val (.int p4), .val (.long q5), .second, .val (.int p6), .val (.int (1 : Int32)), .val (.int sa), .val (.int da), .val (.ref r_126), .val (.ref b128), .val so, .val dob, .val (.ref b135), .val (.ref b135), .val (.long (q5 ^^^ (-1 : Int64))), .second, .val (.long (q5 ^^^ (-1 : Int64))), .second, .val (.int (1 : Int32)), .unset] [(.ref b135)])) rfl rfl (hb hby at_315)
        refine WP.st st180 ?_
        clear st180
        show WP p.tables e below _ T180 (mkF m 318 #[.val (.int p1), .val (.int p2), .val (.int p3), .val (.int p4), .val (.long q5), .second, .val (.int p6), .val (.int (1 : Int32)), .val (.int sa), .val (.int da), .val (.ref r_126), .val (.ref b128), .val so, .val dob, .val (.ref b135), .val (.ref b135), .val (.long (q5 ^^^ (-1 : Int64))), .second, .val (.long (q5 ^^^ (-1 : Int64))), .second, .val (.int (1 : Int32)), .unset] [(.int p3)])
        refine WP.st (T' := T180) (f' := (mkF m 324 #[.val (.int p1), .val (.int p2), .val (.int p3), .val (.int p4), .val (.long q5), .second, .val (.int p6), .val (.int (1 : Int32)), .val (.int sa), .val (.int da), .val (.ref r_126), .val (.ref b128), .val so, .val dob, .val (.ref b135), .val (.ref b135), .val (.long (q5 ^^^ (-1 : Int64))), .second, .val (.long (q5 ^^^ (-1 : Int64))), .second, .val (.int (1 : Int32)), .unset] [(.ref b135)])) (fun t k => ?_) ?_
        · refine XS.iloadN X180.here hx rfl (hb hby at_318) rfl ?_
          show Steps p.tables e below (T180.setTop (mkF m 319 #[.val (.int p1), .val (.int p2), .val (.int p3), .val (.int p4), .val (.long q5), .second, .val (.int p6), .val (.int (1 : Int32)), .val (.int sa), .val (.int da), .val (.ref r_126), .val (.ref b128), .val so, .val dob, .val (.ref b135), .val (.ref b135), .val (.long (q5 ^^^ (-1 : Int64))), .second, .val (.long (q5 ^^^ (-1 : Int64))), .second, .val (.int (1 : Int32)), .unset] [(.int p3), (.int p3)])) t
          refine XS.icmpNo X180.here hx rfl (hb hby at_319) rfl (teq (rfl : p3 = p3)).2 ?_
          show Steps p.tables e below (T180.setTop (mkF m 322 #[.val (.int p1), .val (.int p2), .val (.int p3), .val (.int p4), .val (.long q5), .second, .val (.int p6), .val (.int (1 : Int32)), .val (.int sa), .val (.int da), .val (.ref r_126), .val (.ref b128), .val so, .val dob, .val (.ref b135), .val (.ref b135), .val (.long (q5 ^^^ (-1 : Int64))), .second, .val (.long (q5 ^^^ (-1 : Int64))), .second, .val (.int (1 : Int32)), .unset] [])) t
          refine XS.aload X180.here hx rfl (hb hby at_322) rfl rfl ?_
          exact k
        obtain ⟨T181, X181, e181, st181⟩ := getF X180 hx hZ hown (host := "") (Or.inl (w_31 hw)) Via.refl e180 F_b135_obj (g := (mkF m 324 #[.val (.int p1), .val (.int p2), .val (.int p3), .val (.int p4), .val (.long q5), .second, .val (.int p6), .val (.int (1 : Int32)), .val (.int sa), .val (.int da), .val (.ref r_126), .val (.ref b128), .val so, .val dob, .val (.ref b135), .val (.ref b135), .val (.long (q5 ^^^ (-1 : Int64))), .second, .val (.long (q5 ^^^ (-1 : Int64))), .second, .val (.int (1 : Int32)), .unset] [(.ref b135)])) rfl rfl (hb hby at_324)
        refine WP.st st181 ?_
        clear st181
        show WP p.tables e below _ T181 (mkF m 327 #[.val (.int p1), .val (.int p2), .val (.int p3), .val (.int p4), .val (.long q5), .second, .val (.int p6), .val (.int (1 : Int32)), .val (.int sa), .val (.int da), .val (.ref r_126), .val (.ref b128), .val so, .val dob, .val (.ref b135), .val (.ref b135), .val (.long (q5 ^^^ (-1 : Int64))), .second, .val (.long (q5 ^^^ (-1 : Int64))), .second, .val (.int (1 : Int32)), .unset] [so])
        refine WP.st (T' := T181) (f' := (mkF m 329 #[.val (.int p1), .val (.int p2), .val (.int p3), .val (.int p4), .val (.long q5), .second, .val (.int p6), .val (.int (1 : Int32)), .val (.int sa), .val (.int da), .val (.ref r_126), .val (.ref b128), .val so, .val dob, .val (.ref b135), .val (.ref b135), .val (.long (q5 ^^^ (-1 : Int64))), .second, .val (.long (q5 ^^^ (-1 : Int64))), .second, .val (.int (1 : Int32)), .unset] [so, so])) (fun t k => ?_) ?_
        · refine XS.aload X181.here hx rfl (hb hby at_327) rfl hr_so ?_
          exact k
        refine WP.st (T' := T181) (f' := (mkF m 334 #[.val (.int p1), .val (.int p2), .val (.int p3), .val (.int p4), .val (.long q5), .second, .val (.int p6), .val (.int (1 : Int32)), .val (.int sa), .val (.int da), .val (.ref r_126), .val (.ref b128), .val so, .val dob, .val (.ref b135), .val (.ref b135), .val (.long (q5 ^^^ (-1 : Int64))), .second, .val (.long (q5 ^^^ (-1 : Int64))), .second, .val (.int (1 : Int32)), .unset] [(.ref b135)])) (fun t k => ?_) ?_
        · refine Jvm.RoadKit.acmp (g := (mkF m 329 #[.val (.int p1), .val (.int p2), .val (.int p3), .val (.int p4), .val (.long q5), .second, .val (.int p6), .val (.int (1 : Int32)), .val (.int sa), .val (.int da), .val (.ref r_126), .val (.ref b128), .val so, .val dob, .val (.ref b135), .val (.ref b135), .val (.long (q5 ^^^ (-1 : Int64))), .second, .val (.long (q5 ^^^ (-1 : Int64))), .second, .val (.int (1 : Int32)), .unset] [so, so])) X181 hx rfl hr_so hr_so (pc0 := 329) (pc' := 332) (same := true) rfl (hb hby at_329) rfl (decide_eq_true rfl) (by decide) (by decide) ?_
          show Steps p.tables e below (T181.setTop (mkF m 332 #[.val (.int p1), .val (.int p2), .val (.int p3), .val (.int p4), .val (.long q5), .second, .val (.int p6), .val (.int (1 : Int32)), .val (.int sa), .val (.int da), .val (.ref r_126), .val (.ref b128), .val so, .val dob, .val (.ref b135), .val (.ref b135), .val (.long (q5 ^^^ (-1 : Int64))), .second, .val (.long (q5 ^^^ (-1 : Int64))), .second, .val (.int (1 : Int32)), .unset] [])) t
          refine XS.aload X181.here hx rfl (hb hby at_332) rfl rfl ?_
          exact k
        obtain ⟨cq182, kq182, q182a, q182b, q182c⟩ := isOf hZ e181 E_b135
        obtain ⟨_, _, ⟨T182, L182, k182, n182⟩, -, X182, ⟨Lc182, hQ182, l182, y182, z182⟩, st182⟩ := X181.virtualBack hx (y := (⟨"com/example/hasten/hasten/Message", "isAsynchronous", "()Z"⟩ : MethodName)) (z := (⟨"com/example/hasten/hasten/Message", "isAsynchronous", "()Z"⟩ : MethodName)) hown (mvT hZ (w_60 hw)) (mvT hZ (w_61 hw)) (notFace_of_selects (args := #[]) (mvT hZ (w_63 hw))) (mvT hZ (w_63 hw)) (mvT hZ (w_62 hw)) (by decide) (backOf (W := 0) (rm9 l Z a0 hw [] b135 sa h166 n0 Z0 F_b135_asynchronous) hZ (w_64 hw) (w_9 hw) (by decide) (by decide)) q182a q182c (g := (mkF m 334 #[.val (.int p1), .val (.int p2), .val (.int p3), .val (.int p4), .val (.long q5), .second, .val (.int p6), .val (.int (1 : Int32)), .val (.int sa), .val (.int da), .val (.ref r_126), .val (.ref b128), .val so, .val dob, .val (.ref b135), .val (.ref b135), .val (.long (q5 ^^^ (-1 : Int64))), .second, .val (.long (q5 ^^^ (-1 : Int64))), .second, .val (.int (1 : Int32)), .unset] [(.ref b135)])) rfl (by rw [hml]; rfl) (Steps.refl _) (argsL := []) (rest := []) (lenOf pd_7 rfl) rfl (by show 2 * 0 + _ ≤ _; exact Nat.le_of_eq rfl) (hb hby at_334) (fun _ _ => ⟨rfl, e181, (by decide : 3 + 0 ≤ _), (by decide : 29 + 0 ≤ _)⟩)
        dsimp only [Pt.U, Pt.locs, Pt.cells, Pt.slots] at X182 l182 y182 z182 st182 hQ182
        subst l182 y182 z182
        obtain ⟨rfl, Nq182, Kq182⟩ := hQ182
        replace NF := Fr.app NF Nq182
        clear Nq182
        refine WP.tr st182 ?_
        clear st182
        replace Kq182 := Kq182.trans (rfl : h166 = h166)
        have hXN : ∃ LL, Stand p l e room_1 s m #[(.int p1), (.int p2), (.int p3), (.int p4), (.long q5), (.int p6)] below meth c T182 LL 3 29 ∧ Fr n0 LL := ⟨_, X182, NF⟩
        clear X182 NF
        obtain ⟨LL183, X182, NF⟩ := hXN
        show WP p.tables e below _ T182 (mkF m 337 #[.val (.int p1), .val (.int p2), .val (.int p3), .val (.int p4), .val (.long q5), .second, .val (.int p6), .val (.int (1 : Int32)), .val (.int sa), .val (.int da), .val (.ref r_126), .val (.ref b128), .val so, .val dob, .val (.ref b135), .val (.ref b135), .val (.long (q5 ^^^ (-1 : Int64))), .second, .val (.long (q5 ^^^ (-1 : Int64))), .second, .val (.int (1 : Int32)), .unset] [(.int (nar .boolean sa))])
        refine WP.st (T' := T182) (f' := (mkF m 344 #[.val (.int p1), .val (.int p2), .val (.int p3), .val (.int p4), .val (.long q5), .second, .val (.int p6), .val (.int (1 : Int32)), .val (.int sa), .val (.int da), .val (.ref r_126), .val (.ref b128), .val so, .val dob, .val (.ref b135), .val (.ref b135), .val (.long (q5 ^^^ (-1 : Int64))), .second, .val (.long (q5 ^^^ (-1 : Int64))), .second, .val (.int (1 : Int32)), .unset] [(.ref b135)])) (fun t k => ?_) ?_
        · refine XS.iload X182.here hx rfl (hb hby at_337) rfl ?_
          show Steps p.tables e below (T182.setTop (mkF m 339 #[.val (.int p1), .val (.int p2), .val (.int p3), .val (.int p4), .val (.long q5), .second, .val (.int p6), .val (.int (1 : Int32)), .val (.int sa), .val (.int da), .val (.ref r_126), .val (.ref b128), .val so, .val dob, .val (.ref b135), .val (.ref b135), .val (.long (q5 ^^^ (-1 : Int64))), .second, .val (.long (q5 ^^^ (-1 : Int64))), .second, .val (.int (1 : Int32)), .unset] [(.int sa), (.int (nar .boolean sa))])) t
          refine XS.icmpNo X182.here hx rfl (hb hby at_339) rfl (teq (nar01 hsa)).2 ?_
          show Steps p.tables e below (T182.setTop (mkF m 342 #[.val (.int p1), .val (.int p2), .val (.int p3), .val (.int p4), .val (.long q5), .second, .val (.int p6), .val (.int (1 : Int32)), .val (.int sa), .val (.int da), .val (.ref r_126), .val (.ref b128), .val so, .val dob, .val (.ref b135), .val (.ref b135), .val (.long (q5 ^^^ (-1 : Int64))), .second, .val (.long (q5 ^^^ (-1 : Int64))), .second, .val (.int (1 : Int32)), .unset] [])) t
          refine XS.aload X182.here hx rfl (hb hby at_342) rfl rfl ?_
          exact k
        obtain ⟨cq184, kq184, q184a, q184b, q184c⟩ := isOf hZ Kq182 E_b135
        obtain ⟨_, _, ⟨T184, L184, k184, n184⟩, -, X184, ⟨Lc184, hQ184, l184, y184, z184⟩, st184⟩ := X182.virtualBack hx (y := (⟨"com/example/hasten/hasten/Message", "getWhen", "()J"⟩ : MethodName)) (z := (⟨"com/example/hasten/hasten/Message", "getWhen", "()J"⟩ : MethodName)) hown (mvT hZ (w_45 hw)) (mvT hZ (w_46 hw)) (notFace_of_selects (args := #[]) (mvT hZ (w_48 hw))) (mvT hZ (w_48 hw)) (mvT hZ (w_47 hw)) (by decide) (backOf (W := 0) (rm7 l Z a0 hw [] b135 (q5 ^^^ (-1 : Int64)) h166 n0 Z0 F_b135_when) hZ (w_49 hw) (w_9 hw) (by decide) (by decide)) q184a q184c (g := (mkF m 344 #[.val (.int p1), .val (.int p2), .val (.int p3), .val (.int p4), .val (.long q5), .second, .val (.int p6), .val (.int (1 : Int32)), .val (.int sa), .val (.int da), .val (.ref r_126), .val (.ref b128), .val so, .val dob, .val (.ref b135), .val (.ref b135), .val (.long (q5 ^^^ (-1 : Int64))), .second, .val (.long (q5 ^^^ (-1 : Int64))), .second, .val (.int (1 : Int32)), .unset] [(.ref b135)])) rfl (by rw [hml]; rfl) (Steps.refl _) (argsL := []) (rest := []) (lenOf pd_5 rfl) rfl (by show 2 * 0 + _ ≤ _; exact Nat.le_of_eq rfl) (hb hby at_344) (fun _ _ => ⟨rfl, Kq182, (by decide : 3 + 0 ≤ _), (by decide : 29 + 0 ≤ _)⟩)
        dsimp only [Pt.U, Pt.locs, Pt.cells, Pt.slots] at X184 l184 y184 z184 st184 hQ184
        subst l184 y184 z184
        obtain ⟨rfl, Nq184, Kq184⟩ := hQ184
        replace NF := Fr.app NF Nq184
        clear Nq184
        refine WP.tr st184 ?_
        clear st184
        replace Kq184 := Kq184.trans (rfl : h166 = h166)
        have hXN : ∃ LL, Stand p l e room_1 s m #[(.int p1), (.int p2), (.int p3), (.int p4), (.long q5), (.int p6)] below meth c T184 LL 3 29 ∧ Fr n0 LL := ⟨_, X184, NF⟩
        clear X184 NF
        obtain ⟨LL185, X184, NF⟩ := hXN
        show WP p.tables e below _ T184 (mkF m 347 #[.val (.int p1), .val (.int p2), .val (.int p3), .val (.int p4), .val (.long q5), .second, .val (.int p6), .val (.int (1 : Int32)), .val (.int sa), .val (.int da), .val (.ref r_126), .val (.ref b128), .val so, .val dob, .val (.ref b135), .val (.ref b135), .val (.long (q5 ^^^ (-1 : Int64))), .second, .val (.long (q5 ^^^ (-1 : Int64))), .second, .val (.int (1 : Int32)), .unset] [(.long (q5 ^^^ (-1 : Int64)))])
        refine WP.st (T' := T184) (f' := (mkF m 375 #[.val (.int p1), .val (.int p2), .val (.int p3), .val (.int p4), .val (.long q5), .second, .val (.int p6), .val (.int (1 : Int32)), .val (.int sa), .val (.int da), .val (.ref r_126), .val (.ref b128), .val so, .val dob, .val (.ref b135), .val (.ref b135), .val (.long (q5 ^^^ (-1 : Int64))), .second, .val (.long (q5 ^^^ (-1 : Int64))), .second, .val (.int (1 : Int32)), .val (.int (1 : Int32))] [(.int (1 : Int32))])) (fun t k => ?_) ?_
        · refine XS.lload X184.here hx rfl (hb hby at_347) rfl ?_
          show Steps p.tables e below (T184.setTop (mkF m 349 #[.val (.int p1), .val (.int p2), .val (.int p3), .val (.int p4), .val (.long q5), .second, .val (.int p6), .val (.int (1 : Int32)), .val (.int sa), .val (.int da), .val (.ref r_126), .val (.ref b128), .val so, .val dob, .val (.ref b135), .val (.ref b135), .val (.long (q5 ^^^ (-1 : Int64))), .second, .val (.long (q5 ^^^ (-1 : Int64))), .second, .val (.int (1 : Int32)), .unset] [(.long (q5 ^^^ (-1 : Int64))), (.long (q5 ^^^ (-1 : Int64)))])) t
          refine XS.lcmp X184.here hx rfl (hb hby at_349) rfl ?_
          show Steps p.tables e below (T184.setTop (mkF m 350 #[.val (.int p1), .val (.int p2), .val (.int p3), .val (.int p4), .val (.long q5), .second, .val (.int p6), .val (.int (1 : Int32)), .val (.int sa), .val (.int da), .val (.ref r_126), .val (.ref b128), .val so, .val dob, .val (.ref b135), .val (.ref b135), .val (.long (q5 ^^^ (-1 : Int64))), .second, .val (.long (q5 ^^^ (-1 : Int64))), .second, .val (.int (1 : Int32)), .unset] [(.int (lcmpW (q5 ^^^ (-1 : Int64)) (q5 ^^^ (-1 : Int64))))])) t
          refine XS.ifNo X184.here hx rfl (hb hby at_350) rfl ((if0 _ _).trans (teq ((lw_eq _ _).2 rfl)).2) ?_
          show Steps p.tables e below (T184.setTop (mkF m 353 #[.val (.int p1), .val (.int p2), .val (.int p3), .val (.int p4), .val (.long q5), .second, .val (.int p6), .val (.int (1 : Int32)), .val (.int sa), .val (.int da), .val (.ref r_126), .val (.ref b128), .val so, .val dob, .val (.ref b135), .val (.ref b135), .val (.long (q5 ^^^ (-1 : Int64))), .second, .val (.long (q5 ^^^ (-1 : Int64))), .second, .val (.int (1 : Int32)), .unset] [])) t
          refine XS.iconst X184.here hx rfl (hb hby at_353) ?_
          show Steps p.tables e below (T184.setTop (mkF m 354 #[.val (.int p1), .val (.int p2), .val (.int p3), .val (.int p4), .val (.long q5), .second, .val (.int p6), .val (.int (1 : Int32)), .val (.int sa), .val (.int da), .val (.ref r_126), .val (.ref b128), .val so, .val dob, .val (.ref b135), .val (.ref b135), .val (.long (q5 ^^^ (-1 : Int64))), .second, .val (.long (q5 ^^^ (-1 : Int64))), .second, .val (.int (1 : Int32)), .unset] [(.int (1 : Int32))])) t
          refine XS.goto X184.here hx rfl (pc0 := 354) (pc' := 358) rfl (hb hby at_354) (by decide) (by decide) ?_
          show Steps p.tables e below (T184.setTop (mkF m 358 #[.val (.int p1), .val (.int p2), .val (.int p3), .val (.int p4), .val (.long q5), .second, .val (.int p6), .val (.int (1 : Int32)), .val (.int sa), .val (.int da), .val (.ref r_126), .val (.ref b128), .val so, .val dob, .val (.ref b135), .val (.ref b135), .val (.long (q5 ^^^ (-1 : Int64))), .second, .val (.long (q5 ^^^ (-1 : Int64))), .second, .val (.int (1 : Int32)), .unset] [(.int (1 : Int32))])) t
          refine XS.istore X184.here hx rfl (hb hby at_358) rfl (l' := #[.val (.int p1), .val (.int p2), .val (.int p3), .val (.int p4), .val (.long q5), .second, .val (.int p6), .val (.int (1 : Int32)), .val (.int sa), .val (.int da), .val (.ref r_126), .val (.ref b128), .val so, .val dob, .val (.ref b135), .val (.ref b135), .val (.long (q5 ^^^ (-1 : Int64))), .second, .val (.long (q5 ^^^ (-1 : Int64))), .second, .val (.int (1 : Int32)), .val (.int (1 : Int32))]) rfl ?_
          show Steps p.tables e below (T184.setTop (mkF m 360 #[.val (.int p1), .val (.int p2), .val (.int p3), .val (.int p4), .val (.long q5), .second, .val (.int p6), .val (.int (1 : Int32)), .val (.int sa), .val (.int da), .val (.ref r_126), .val (.ref b128), .val so, .val dob, .val (.ref b135), .val (.ref b135), .val (.long (q5 ^^^ (-1 : Int64))), .second, .val (.long (q5 ^^^ (-1 : Int64))), .second, .val (.int (1 : Int32)), .val (.int (1 : Int32))] [])) t
          refine XS.iload X184.here hx rfl (hb hby at_360) rfl ?_
          show Steps p.tables e below (T184.setTop (mkF m 362 #[.val (.int p1), .val (.int p2), .val (.int p3), .val (.int p4), .val (.long q5), .second, .val (.int p6), .val (.int (1 : Int32)), .val (.int sa), .val (.int da), .val (.ref r_126), .val (.ref b128), .val so, .val dob, .val (.ref b135), .val (.ref b135), .val (.long (q5 ^^^ (-1 : Int64))), .second, .val (.long (q5 ^^^ (-1 : Int64))), .second, .val (.int (1 : Int32)), .val (.int (1 : Int32))] [(.int (1 : Int32))])) t
          refine XS.ifNo X184.here hx rfl (hb hby at_362) rfl ((if0 _ _).trans (feq (by decide : ¬ ((1 : Int32) = (0 : Int32)))).1) ?_
          show Steps p.tables e below (T184.setTop (mkF m 365 #[.val (.int p1), .val (.int p2), .val (.int p3), .val (.int p4), .val (.long q5), .second, .val (.int p6), .val (.int (1 : Int32)), .val (.int sa), .val (.int da), .val (.ref r_126), .val (.ref b128), .val so, .val dob, .val (.ref b135), .val (.ref b135), .val (.long (q5 ^^^ (-1 : Int64))), .second, .val (.long (q5 ^^^ (-1 : Int64))), .second, .val (.int (1 : Int32)), .val (.int (1 : Int32))] [])) t
          refine XS.iload X184.here hx rfl (hb hby at_365) rfl ?_
          show Steps p.tables e below (T184.setTop (mkF m 367 #[.val (.int p1), .val (.int p2), .val (.int p3), .val (.int p4), .val (.long q5), .second, .val (.int p6), .val (.int (1 : Int32)), .val (.int sa), .val (.int da), .val (.ref r_126), .val (.ref b128), .val so, .val dob, .val (.ref b135), .val (.ref b135), .val (.long (q5 ^^^ (-1 : Int64))), .second, .val (.long (q5 ^^^ (-1 : Int64))), .second, .val (.int (1 : Int32)), .val (.int (1 : Int32))] [(.int (1 : Int32))])) t
          refine XS.ifNo X184.here hx rfl (hb hby at_367) rfl ((if0 _ _).trans (feq (by decide : ¬ ((1 : Int32) = (0 : Int32)))).1) ?_
          show Steps p.tables e below (T184.setTop (mkF m 370 #[.val (.int p1), .val (.int p2), .val (.int p3), .val (.int p4), .val (.long q5), .second, .val (.int p6), .val (.int (1 : Int32)), .val (.int sa), .val (.int da), .val (.ref r_126), .val (.ref b128), .val so, .val dob, .val (.ref b135), .val (.ref b135), .val (.long (q5 ^^^ (-1 : Int64))), .second, .val (.long (q5 ^^^ (-1 : Int64))), .second, .val (.int (1 : Int32)), .val (.int (1 : Int32))] [])) t
          refine XS.iconst X184.here hx rfl (hb hby at_370) ?_
          show Steps p.tables e below (T184.setTop (mkF m 371 #[.val (.int p1), .val (.int p2), .val (.int p3), .val (.int p4), .val (.long q5), .second, .val (.int p6), .val (.int (1 : Int32)), .val (.int sa), .val (.int da), .val (.ref r_126), .val (.ref b128), .val so, .val dob, .val (.ref b135), .val (.ref b135), .val (.long (q5 ^^^ (-1 : Int64))), .second, .val (.long (q5 ^^^ (-1 : Int64))), .second, .val (.int (1 : Int32)), .val (.int (1 : Int32))] [(.int (1 : Int32))])) t
          refine XS.goto X184.here hx rfl (pc0 := 371) (pc' := 375) rfl (hb hby at_371) (by decide) (by decide) ?_
          exact k
        subst hG
        obtain ⟨fs, hr, hrun, hended, hW, hsame⟩ := X184.leave (v := some (.int (1 : Int32))) (fun h => by rw [Bd.returns] at h; cases h)
        refine WP.fin ⟨_, _, ?_, hrun, hended, _, _, rfl, ?_, ⟨_, rfl⟩, hW, hsame.mono (by decide) (by decide)⟩
        · exact retN X184 hx (t := .boolean) Bd.returns (by simp) (hb hby at_375) hr
        · show Q0 Z p1 p2 p3 p4 q5 p6 ca cl h0 n0 _ T184.heap _
          rw [Kq184]
          exact ⟨rfl, NF⟩
      refine WP.st (T' := Tj124) (f' := (mkF m 32 #[.val (.int p1), .val (.int p2), .val (.int p3), .val (.int p4), .val (.long q5), .second, .val (.int p6), .val (.int (1 : Int32)), .val (.int sa), .unset, .unset, .unset, .unset, .unset, .unset, .unset, .unset, .unset, .unset, .unset, .unset, .unset] [(.int (p6 &&& (4 : Int32)))])) (fun t k => ?_) ?_
      · refine XS.iload X124.here hx rfl (hb hby at_28) rfl ?_
        show Steps p.tables e below (Tj124.setTop (mkF m 30 #[.val (.int p1), .val (.int p2), .val (.int p3), .val (.int p4), .val (.long q5), .second, .val (.int p6), .val (.int (1 : Int32)), .val (.int sa), .unset, .unset, .unset, .unset, .unset, .unset, .unset, .unset, .unset, .unset, .unset, .unset, .unset] [(.int p6)])) t
        refine XS.iconst X124.here hx rfl (hb hby at_30) ?_
        show Steps p.tables e below (Tj124.setTop (mkF m 31 #[.val (.int p1), .val (.int p2), .val (.int p3), .val (.int p4), .val (.long q5), .second, .val (.int p6), .val (.int (1 : Int32)), .val (.int sa), .unset, .unset, .unset, .unset, .unset, .unset, .unset, .unset, .unset, .unset, .unset, .unset, .unset] [(.int (4 : Int32)), (.int p6)])) t
        refine XS.iand X124.here hx rfl (hb hby at_31) rfl ?_
        exact k
      by_cases hc186 : (p6 &&& (4 : Int32)) = (0 : Int32)
      · skip
        refine WP.st (T' := Tj124) (f' := (mkF m 40 #[.val (.int p1), .val (.int p2), .val (.int p3), .val (.int p4), .val (.long q5), .second, .val (.int p6), .val (.int (1 : Int32)), .val (.int sa), .unset, .unset, .unset, .unset, .unset, .unset, .unset, .unset, .unset, .unset, .unset, .unset, .unset] [(.int (0 : Int32))])) (fun t k => ?_) ?_
        · refine XS.ifYes X124.here hx rfl (pc0 := 32) (pc' := 39) rfl (hb hby at_32) rfl ((if0 _ _).trans (teq hc186).1) (by decide) (by decide) ?_
          show Steps p.tables e below (Tj124.setTop (mkF m 39 #[.val (.int p1), .val (.int p2), .val (.int p3), .val (.int p4), .val (.long q5), .second, .val (.int p6), .val (.int (1 : Int32)), .val (.int sa), .unset, .unset, .unset, .unset, .unset, .unset, .unset, .unset, .unset, .unset, .unset, .unset, .unset] [])) t
          refine XS.iconst X124.here hx rfl (hb hby at_39) ?_
          exact k
        exact J125 _ _  (0 : Int32) (ownWider X124 (by decide) (by decide)) ej124 NF  (by decide)
      · skip
        refine WP.st (T' := Tj124) (f' := (mkF m 40 #[.val (.int p1), .val (.int p2), .val (.int p3), .val (.int p4), .val (.long q5), .second, .val (.int p6), .val (.int (1 : Int32)), .val (.int sa), .unset, .unset, .unset, .unset, .unset, .unset, .unset, .unset, .unset, .unset, .unset, .unset, .unset] [(.int (1 : Int32))])) (fun t k => ?_) ?_
        · refine XS.ifNo X124.here hx rfl (hb hby at_32) rfl ((if0 _ _).trans (feq hc186).1) ?_
          show Steps p.tables e below (Tj124.setTop (mkF m 35 #[.val (.int p1), .val (.int p2), .val (.int p3), .val (.int p4), .val (.long q5), .second, .val (.int p6), .val (.int (1 : Int32)), .val (.int sa), .unset, .unset, .unset, .unset, .unset, .unset, .unset, .unset, .unset, .unset, .unset, .unset, .unset] [])) t
          refine XS.iconst X124.here hx rfl (hb hby at_35) ?_
          show Steps p.tables e below (Tj124.setTop (mkF m 36 #[.val (.int p1), .val (.int p2), .val (.int p3), .val (.int p4), .val (.long q5), .second, .val (.int p6), .val (.int (1 : Int32)), .val (.int sa), .unset, .unset, .unset, .unset, .unset, .unset, .unset, .unset, .unset, .unset, .unset, .unset, .unset] [(.int (1 : Int32))])) t
          refine XS.goto X124.here hx rfl (pc0 := 36) (pc' := 40) rfl (hb hby at_36) (by decide) (by decide) ?_
          exact k
        exact J125 _ _  (1 : Int32) (ownWider X124 (by decide) (by decide)) ej124 NF  (by decide)
    refine WP.st (T' := s₁) (f' := (mkF m 18 #[.val (.int p1), .val (.int p2), .val (.int p3), .val (.int p4), .val (.long q5), .second, .val (.int p6), .val (.int (1 : Int32)), .unset, .unset, .unset, .unset, .unset, .unset, .unset, .unset, .unset, .unset, .unset, .unset, .unset, .unset] [(.int (p6 &&& (2 : Int32)))])) (fun t k => ?_) ?_
    · refine XS.iload X0.here hx rfl (hb hby at_14) rfl ?_
      show Steps p.tables e below (s₁.setTop (mkF m 16 #[.val (.int p1), .val (.int p2), .val (.int p3), .val (.int p4), .val (.long q5), .second, .val (.int p6), .val (.int (1 : Int32)), .unset, .unset, .unset, .unset, .unset, .unset, .unset, .unset, .unset, .unset, .unset, .unset, .unset, .unset] [(.int p6)])) t
      refine XS.iconst X0.here hx rfl (hb hby at_16) ?_
      show Steps p.tables e below (s₁.setTop (mkF m 17 #[.val (.int p1), .val (.int p2), .val (.int p3), .val (.int p4), .val (.long q5), .second, .val (.int p6), .val (.int (1 : Int32)), .unset, .unset, .unset, .unset, .unset, .unset, .unset, .unset, .unset, .unset, .unset, .unset, .unset, .unset] [(.int (2 : Int32)), (.int p6)])) t
      refine XS.iand X0.here hx rfl (hb hby at_17) rfl ?_
      exact k
    by_cases hc187 : (p6 &&& (2 : Int32)) = (0 : Int32)
    · skip
      refine WP.st (T' := s₁) (f' := (mkF m 26 #[.val (.int p1), .val (.int p2), .val (.int p3), .val (.int p4), .val (.long q5), .second, .val (.int p6), .val (.int (1 : Int32)), .unset, .unset, .unset, .unset, .unset, .unset, .unset, .unset, .unset, .unset, .unset, .unset, .unset, .unset] [(.int (0 : Int32))])) (fun t k => ?_) ?_
      · refine XS.ifYes X0.here hx rfl (pc0 := 18) (pc' := 25) rfl (hb hby at_18) rfl ((if0 _ _).trans (teq hc187).1) (by decide) (by decide) ?_
        show Steps p.tables e below (s₁.setTop (mkF m 25 #[.val (.int p1), .val (.int p2), .val (.int p3), .val (.int p4), .val (.long q5), .second, .val (.int p6), .val (.int (1 : Int32)), .unset, .unset, .unset, .unset, .unset, .unset, .unset, .unset, .unset, .unset, .unset, .unset, .unset, .unset] [])) t
        refine XS.iconst X0.here hx rfl (hb hby at_25) ?_
        exact k
      exact J124 _ _  (0 : Int32) (ownWider X0 (by decide) (by decide)) e0 NF  (by decide)
    · skip
      refine WP.st (T' := s₁) (f' := (mkF m 26 #[.val (.int p1), .val (.int p2), .val (.int p3), .val (.int p4), .val (.long q5), .second, .val (.int p6), .val (.int (1 : Int32)), .unset, .unset, .unset, .unset, .unset, .unset, .unset, .unset, .unset, .unset, .unset, .unset, .unset, .unset] [(.int (1 : Int32))])) (fun t k => ?_) ?_
      · refine XS.ifNo X0.here hx rfl (hb hby at_18) rfl ((if0 _ _).trans (feq hc187).1) ?_
        show Steps p.tables e below (s₁.setTop (mkF m 21 #[.val (.int p1), .val (.int p2), .val (.int p3), .val (.int p4), .val (.long q5), .second, .val (.int p6), .val (.int (1 : Int32)), .unset, .unset, .unset, .unset, .unset, .unset, .unset, .unset, .unset, .unset, .unset, .unset, .unset, .unset] [])) t
        refine XS.iconst X0.here hx rfl (hb hby at_21) ?_
        show Steps p.tables e below (s₁.setTop (mkF m 22 #[.val (.int p1), .val (.int p2), .val (.int p3), .val (.int p4), .val (.long q5), .second, .val (.int p6), .val (.int (1 : Int32)), .unset, .unset, .unset, .unset, .unset, .unset, .unset, .unset, .unset, .unset, .unset, .unset, .unset, .unset] [(.int (1 : Int32))])) t
        refine XS.goto X0.here hx rfl (pc0 := 22) (pc' := 26) rfl (hb hby at_22) (by decide) (by decide) ?_
        exact k
      exact J124 _ _  (1 : Int32) (ownWider X0 (by decide) (by decide)) e0 NF  (by decide)
theorem own_cache {s : State} {args : Array Value} {t : Term} {K C : String} {P : Jvm.Cond} (et : ∀ idx idx', t.eval args s none idx s = t.eval args s none idx' s) (hE : (Cond.exactly t C).before args s = true) (hA : (Cond.arrayOf t (.object K)).before args s = true)
    (hL : (Cond.eq (Term.length t) (Term.int 256)).before args s = true) (hall : (Cond.all t (.and (.exactly (.elem t (.index 0)) K) P)).before args s = true) :
    ∃ (ca : Addr) (cl : Cell), t.eval args s none [] s = some (.ref ca) ∧ Arr s s.heap ca cl (.object K) ∧ cl.slots.size = 256 ∧ ∀ j : Int32, ¬ (j < 0 ∨ cl.slots.size ≤ j.toNatClampNeg) → ∃ b : Addr, cl.slots[j.toNatClampNeg]? = some (.ref b) := by
  obtain ⟨a, -, -, -, ev, -⟩ := Cond.exactly_spec hE
  obtain ⟨cl, A⟩ := Arr.start ev (Cond.before_iff.mp hA)
  have hat : s.arrayAt? a = some cl := A.fin (Vm.Alike.refl _)
  obtain ⟨y, e1, e2⟩ := Cond.eq_one hL
  cases e2
  have q : cl.slots.size < 2 ^ 31 := by
    apply Classical.byContradiction
    intro q
    simp [Term.eval, ev, hat, q] at e1
  have e3 := (len_f ev hat q).symm.trans e1
  have e4 : cl.slots.size.toInt32 = 256 := Value.int.inj (Option.some.inj e3)
  have e5 := congrArg Int32.toInt e4
  rw [len_toInt q, show (256 : Int32).toInt = 256 by decide] at e5
  refine ⟨a, cl, ev, A, by omega, fun j hj => ?_⟩
  have nn : ¬ j < 0 := fun x => hj (Or.inl x)
  obtain ⟨u1, -⟩ := and_e (Cond.all_elim ev hat (Cond.before_iff.mp hall) j.toNatClampNeg (Nat.lt_of_not_le fun x => hj (Or.inr x)))
  obtain ⟨box, eb⟩ := exa_v u1
  exact ⟨box, (elem_f ((et _ []).trans ev) (idx_at nn) hat nn).symm.trans eb⟩
set_option maxRecDepth 65536 in
set_option maxHeartbeats 40000000 in
theorem comes_1 {Post : Tables → Env → Array Value → State → Outcome → State → Prop} (hpost : ∀ tb e args s v u, (limb_1_1.after args s (.returned v) u = true ∧ limb_1_2.after args s (.returned v) u = true ∧ True) → FrameEnd s (.returned v) u (Jvm.fieldLocs frame_1_writes args s ++ Jvm.arrayLocs frame_1_arrays args s ++ Jvm.staticLocs frame_1_statics s) 16 192 → Post tb e args s (.returned v) u) :
    ArmFor flags0 classFile x code maxLocals ret World_1 tables_1 room_1 Calls_1 rest_1 Pre_1 Post := by
  intro l hfl _ _ p e ha hc hk s m args below hf hA hF happ hP
  obtain ⟨hcalls, hrest, hpre⟩ := hP
  obtain ⟨-, -, -, hnamed, -, -, -, hat⟩ := (Spec.applies_iff hf).mp happ
  obtain ⟨hg, hn⟩ := and_e (Cond.before_iff.mp (show (Jvm.Cond.and given_1 narrow_1).before args s = true from hpre))
  obtain ⟨gg1, gg2⟩ := and_e hg
  obtain ⟨gg3, gg4⟩ := and_e gg2
  obtain ⟨gg5, gg6⟩ := and_e gg4
  obtain ⟨gg7, gg8⟩ := and_e gg6
  obtain ⟨gg9, gg10⟩ := and_e gg8
  obtain ⟨gg11, gg12⟩ := and_e gg10
  obtain ⟨w0, w1, w2, w3, w4, w5, rfl⟩ : ∃ w0 w1 w2 w3 w4 w5 : Value, args = #[w0, w1, w2, w3, w4, w5] := by
    have hs : args.size = 6 := by simpa [Cond.value, given_1] using gg1
    obtain ⟨L⟩ := args
    match L, hs with
    | [w0, w1, w2, w3, w4, w5], _ => exact ⟨w0, w1, w2, w3, w4, w5, rfl⟩
  have hw := fun d (hd : d ∈ tables_1) => atoms_spec (ws := Jvm.Cond.code x code maxLocals ret :: tables_1) hat d (List.mem_cons_of_mem _ hd)
  have hfit : Fit s := fun {y c} hc i hi => by
    obtain ⟨ha, rfl⟩ := Array.getElem?_eq_some_iff.mp hc
    have q := List.all_eq_true.mp ((Array.all_eq_true_iff_forall_mem.mp hF) _ (Array.getElem_mem ha)) i (List.mem_range.mpr hi)
    simpa [Array.getElem?_eq_getElem hi] using q
  obtain ⟨hsets, hown0⟩ := atoms_of _ (rest_1_c_eq ▸ (show rest_1_c.before _ s = true from hrest))
  have hr0 := Cond.before_iff.mp hown0
  obtain ⟨i0, ei0⟩ := is_v gg3
  obtain rfl : w0 = (.int i0) := Option.some.inj ei0
  obtain ⟨i1, ei1⟩ := is_v gg5
  obtain rfl : w1 = (.int i1) := Option.some.inj ei1
  obtain ⟨i2, ei2⟩ := is_v gg7
  obtain rfl : w2 = (.int i2) := Option.some.inj ei2
  obtain ⟨i3, ei3⟩ := is_v gg9
  obtain rfl : w3 = (.int i3) := Option.some.inj ei3
  obtain ⟨i4, ei4⟩ := isL_v gg11
  obtain rfl : w4 = (.long i4) := Option.some.inj ei4
  obtain ⟨i5, ei5⟩ := is_v gg12
  obtain rfl : w5 = (.int i5) := Option.some.inj ei5
  obtain ⟨ca, cl, evc, hAr, hsz, hel⟩ := own_cache (fun _ _ => rfl) (hsets _ (List.mem_of_getElem? (i := 5) rfl)) (hsets _ (List.mem_of_getElem? (i := 4) rfl)) (hsets _ (List.mem_of_getElem? (i := 6) rfl)) (hsets _ (List.mem_of_getElem? (i := 7) rfl))
  obtain ⟨yh, eh1, eh2⟩ := Cond.eq_one (hsets _ (List.mem_of_getElem? (i := 3) rfl))
  cases eh2
  have S_high := Sta.start eh1 (Or.inr ⟨hw _ (List.mem_of_getElem? (i := 5) rfl), (hsets _ (List.mem_of_getElem? (i := 0) rfl))⟩)
  have S_cache := Sta.start evc (Or.inr ⟨hw _ (List.mem_of_getElem? (i := 5) rfl), (hsets _ (List.mem_of_getElem? (i := 2) rfl))⟩)
  obtain ⟨n, o, h1, h2, h3, _, L, rfl, ⟨rfl, N⟩, hq⟩ := rm0 l s _ hw tables_1 i0 i1 i2 i3 i4 i5 ca cl s.heap s.heap.size (Nat.le_refl _) S_high S_cache hAr hsz hel p e ha hc hk s m _ below hf ((Spec.applies_iff_loose hf).mp happ).1 ⟨rfl, State.Warmed39.refl s, rfl⟩ trivial
  refine ⟨n, _, h1, h2, h3, hpost _ _ _ _ _ _ ⟨Cond.after_iff.mpr rfl, Cond.after_iff.mpr (eq_i res_at (Term.int_eval (1)) rfl), trivial⟩ ⟨hq.1, hq.2.1, (hq.2.2.sift fun y hy => Or.inr (N y hy)).mono (by decide) (by decide)⟩⟩
theorem main_1_1 : Claimed_1_1 := comes_1 fun _ _ _ _ _ _ h hF => ⟨h.1, hF⟩
theorem main_1_2 : Claimed_1_2 := comes_1 fun _ _ _ _ _ _ h hF => ⟨h.2.1, hF⟩
end Jvm.Pilot.@@N@@
namespace Jvm.Pilot.@@N@@
open Jvm Jvm.ClassFile Sem Op Lib Jvm.Free Jvm.Stand Jvm.Pilot.@@N@@.Jvm.D
/-! MADE BY PROGRAM (witnessworld.py) out of the Statement's table words and the real class files: 17 classes; the members and pool entries that the words name. The judged class is class 1, her method 1. -/
namespace start1
open Jvm.ClassFile
def u (s : String) : CpInfo := .utf8 (stringToUtf16 s)
/-- a pool by its gaps: so many unusable entries, then the entry; so many at the end -/
def gap : Nat → List CpInfo → List CpInfo
  | 0, r => r
  | n + 1, r => .unusable :: gap n r
def poolList (es : List (Nat × CpInfo)) (last : Nat) : List CpInfo := es.foldr (fun e r => gap e.1 (e.2 :: r)) (gap last [])
def pool (es : List (Nat × CpInfo)) (last : Nat) : Array CpInfo := ⟨poolList es last⟩
def fileOf (pool : Array CpInfo) (this : Nat) (attrs : Array Attribute := #[]) (ms : Array MethodInfo := #[]) (fl : Nat := 33) (sup : Nat := 0) (ifs : Array Nat := #[]) (fds : Array FieldInfo := #[]) : ClassFile where
  minorVersion := 0
  majorVersion := 65
  constantPool := pool
  accessFlags := fl
  thisClass := this
  superClass := sup
  interfaces := ifs
  fields := fds
  methods := ms
  attributes := attrs
def plain (name : String) (sup : Option ClassId) : Class where
  name := name
  kind := .ordinary
  loader := none
  accessFlags := 33
  super := sup
  interfaces := #[]
  cf := none
  fields := #[]
  methods := #[]
  instanceTypes := #[]
  staticTypes := #[]
  resolved := #[]
  callSites := []
  init := .initialized
  statics := none
  mirror := none

def pool0 : Array CpInfo := pool [(5, u "<init>"), (0, u "()V"), (1, .class_ 10), (1, u "java/lang/Object")] 113

def k0c0 : Code := { maxStack := 0, maxLocals := 1, code := object_method_1_code, exceptionTable := #[], attributes := #[] }
def k0m0 : Method := { name := "<init>", desc := "()V", sig := { parameters := [], returnType := none }, accessFlags := 1, code := some k0c0 }
/-- java/lang/Object -/
def k0 : Class := { plain "java/lang/Object" none with
  accessFlags := 33
  interfaces := #[]
  cf := some (fileOf pool0 8 #[] #[{ accessFlags := 1, nameIndex := 5, descriptorIndex := 6, attributes := #[] }] 33 0 #[] #[])
  fields := #[]
  methods := #[k0m0]
  instanceTypes := #[]
  staticTypes := #[]
  resolved := Array.replicate 124 none
  statics := none }

def pool1 : Array CpInfo := pool [(2, .class_ 4), (0, .nameAndType 5 6), (0, u "java/lang/Object"), (0, u "<init>"), (0, u "()V"), (0, .methodref 8 9), (0, .class_ 10), (0, .nameAndType 11 12), (0, u "java/lang/Integer"), (0, u "valueOf"), (0, u "(I)Ljava/lang/Integer;"), (0, .class_ 14), (0, u "com/example/hasten/hasten/Message"), (0, .methodref 13 3), (0, .methodref 17 18), (0, .class_ 19), (0, .nameAndType 20 21), (0, u "com/example/hasten/hasten/MessageCopyFromPinLaw"), (0, u "pick"), (0, u "(ILjava/lang/Object;Ljava/lang/Object;)Ljava/lang/Object;"), (0, .fieldref 13 23), (0, .nameAndType 24 25), (0, u "what"), (0, u "I"), (0, .fieldref 13 27), (0, .nameAndType 28 25), (0, u "arg1"), (0, .fieldref 13 30), (0, .nameAndType 31 25), (0, u "arg2"), (0, .fieldref 13 33), (0, .nameAndType 34 35), (0, u "obj"), (0, u "Ljava/lang/Object;"), (0, .methodref 13 37), (0, .nameAndType 38 39), (0, u "setAsynchronous"), (0, u "(Z)V"), (0, .fieldref 13 41), (0, .nameAndType 42 43), (0, u "when"), (0, u "J"), (0, .long 18446744073709551615), (1, .methodref 13 47), (0, .nameAndType 48 49), (0, u "getWhen"), (0, u "()J"), (0, .methodref 13 51), (0, .nameAndType 52 53), (0, u "copyFrom"), (0, u "(Lcom/example/hasten/hasten/Message;)V"), (0, .methodref 13 55), (0, .nameAndType 56 57), (0, u "isAsynchronous"), (0, u "()Z"), (0, .methodref 13 59), (0, .nameAndType 60 61), (0, u "getCallback"), (0, u "()Ljava/lang/Runnable;"), (2, u "law"), (0, u "(IIIIJI)Z")] 3

def k1m0 : Method := { name := "<init>", desc := "()V", sig := { parameters := [], returnType := none }, accessFlags := 1, code := none }
def k1c1 : Code := { maxStack := 5, maxLocals := 22, code := code, exceptionTable := #[], attributes := #[] }
def k1m1 : Method := { name := "law", desc := "(IIIIJI)Z", sig := { parameters := [.int, .int, .int, .int, .long, .int], returnType := some .boolean }, accessFlags := 9, code := some k1c1 }
def k1c2 : Code := { maxStack := 2, maxLocals := 3, code := method_3_code, exceptionTable := #[], attributes := #[] }
def k1m2 : Method := { name := "pick", desc := "(ILjava/lang/Object;Ljava/lang/Object;)Ljava/lang/Object;", sig := { parameters := [.int, (.object "java/lang/Object"), (.object "java/lang/Object")], returnType := some (.object "java/lang/Object") }, accessFlags := 10, code := some k1c2 }
/-- com/example/hasten/hasten/MessageCopyFromPinLaw -/
def k1 : Class := { plain "com/example/hasten/hasten/MessageCopyFromPinLaw" (some 0) with
  accessFlags := 49
  interfaces := #[]
  cf := some (fileOf pool1 17 #[] #[{ accessFlags := 1, nameIndex := 5, descriptorIndex := 6, attributes := #[] }, { accessFlags := 9, nameIndex := 64, descriptorIndex := 65, attributes := #[] }, { accessFlags := 10, nameIndex := 20, descriptorIndex := 21, attributes := #[] }] 49 2 #[] #[])
  fields := #[]
  methods := #[k1m0, k1m1, k1m2]
  instanceTypes := #[]
  staticTypes := #[]
  resolved := Array.replicate 69 none
  statics := none }

def pool2 : Array CpInfo := pool [(1, .class_ 2), (0, u "java/io/Serializable"), (0, .class_ 4), (0, u "java/lang/Object")] 2

/-- java/io/Serializable -/
def k2 : Class := { plain "java/io/Serializable" (some 0) with
  accessFlags := 1537
  interfaces := #[]
  cf := some (fileOf pool2 1 #[] #[] 1537 3 #[] #[])
  fields := #[]
  methods := #[]
  instanceTypes := #[]
  staticTypes := #[]
  resolved := Array.replicate 7 none
  statics := none }

def pool3 : Array CpInfo := pool [(1, .methodref 2 3), (0, .class_ 4), (0, .nameAndType 5 6), (0, u "java/lang/Object"), (0, u "<init>"), (0, u "()V"), (1, .class_ 10), (1, u "java/lang/Number"), (2, .class_ 14), (0, u "java/io/Serializable"), (0, u "serialVersionUID"), (0, u "J")] 20

def k3c0 : Code := { maxStack := 1, maxLocals := 1, code := jdk_18_method_1_code, exceptionTable := #[], attributes := #[] }
def k3m0 : Method := { name := "<init>", desc := "()V", sig := { parameters := [], returnType := none }, accessFlags := 1, code := some k3c0 }
/-- java/lang/Number -/
def k3 : Class := { plain "java/lang/Number" (some 0) with
  accessFlags := 1057
  interfaces := #[2]
  cf := some (fileOf pool3 8 #[] #[{ accessFlags := 1, nameIndex := 5, descriptorIndex := 6, attributes := #[] }] 1057 2 #[13] #[{ accessFlags := 26, nameIndex := 15, descriptorIndex := 16, attributes := #[] }])
  fields := #[{ name := "serialVersionUID", type := .long, accessFlags := 26, slot := 0, constantValue := 0 }]
  methods := #[k3m0]
  instanceTypes := #[]
  staticTypes := #[.long]
  resolved := Array.replicate 37 none
  statics := none }

def pool4 : Array CpInfo := pool [(1, .class_ 2), (0, u "java/lang/Comparable"), (0, .class_ 4), (0, u "java/lang/Object")] 7

/-- java/lang/Comparable -/
def k4 : Class := { plain "java/lang/Comparable" (some 0) with
  accessFlags := 1537
  interfaces := #[]
  cf := some (fileOf pool4 1 #[] #[] 1537 3 #[] #[])
  fields := #[]
  methods := #[]
  instanceTypes := #[]
  staticTypes := #[]
  resolved := Array.replicate 12 none
  statics := none }

def pool5 : Array CpInfo := pool [(1, .class_ 2), (0, u "java/lang/constant/Constable"), (0, .class_ 4), (0, u "java/lang/Object")] 6

/-- java/lang/constant/Constable -/
def k5 : Class := { plain "java/lang/constant/Constable" (some 0) with
  accessFlags := 1537
  interfaces := #[]
  cf := some (fileOf pool5 1 #[] #[] 1537 3 #[] #[])
  fields := #[]
  methods := #[]
  instanceTypes := #[]
  staticTypes := #[]
  resolved := Array.replicate 11 none
  statics := none }

def pool6 : Array CpInfo := pool [(1, .class_ 2), (0, u "java/lang/constant/ConstantDesc"), (0, .class_ 4), (0, u "java/lang/Object")] 32

/-- java/lang/constant/ConstantDesc -/
def k6 : Class := { plain "java/lang/constant/ConstantDesc" (some 0) with
  accessFlags := 1537
  interfaces := #[]
  cf := some (fileOf pool6 1 #[] #[] 1537 3 #[] #[])
  fields := #[]
  methods := #[]
  instanceTypes := #[]
  staticTypes := #[]
  resolved := Array.replicate 37 none
  statics := none }

def pool7 : Array CpInfo := pool [(1, .class_ 2), (0, u "java/lang/Integer"), (16, u "digits"), (0, u "[C"), (46, u "<init>"), (17, u "DigitOnes"), (0, u "[B"), (2, u "DigitTens"), (10, .nameAndType 67 101), (0, u "()V"), (85, u "valueOf"), (0, u "(I)Ljava/lang/Integer;"), (0, .class_ 190), (0, u "java/lang/Integer$IntegerCache"), (0, .fieldref 189 192), (0, .nameAndType 193 194), (0, u "high"), (0, u "I"), (0, .fieldref 189 196), (0, .nameAndType 197 198), (0, u "cache"), (0, u "[Ljava/lang/Integer;"), (0, .methodref 1 200), (0, .nameAndType 67 201), (0, u "(I)V"), (0, .methodref 203 100), (0, .class_ 204), (0, u "java/lang/Number"), (0, .fieldref 1 206), (0, .nameAndType 207 194), (0, u "value"), (94, u "TYPE"), (0, u "Ljava/lang/Class;"), (0, .class_ 305), (0, u "java/lang/Comparable"), (0, .class_ 307), (0, u "java/lang/constant/Constable"), (0, .class_ 309), (0, u "java/lang/constant/ConstantDesc"), (0, u "MIN_VALUE"), (1, u "MAX_VALUE"), (3, u "SIZE"), (1, u "BYTES"), (1, u "serialVersionUID"), (0, u "J")] 131

def k7c0 : Code := { maxStack := 3, maxLocals := 1, code := jdk_33_method_22_code, exceptionTable := #[], attributes := #[] }
def k7m0 : Method := { name := "valueOf", desc := "(I)Ljava/lang/Integer;", sig := { parameters := [.int], returnType := some (.object "java/lang/Integer") }, accessFlags := 9, code := some k7c0 }
def k7c1 : Code := { maxStack := 2, maxLocals := 2, code := jdk_33_method_23_code, exceptionTable := #[], attributes := #[] }
def k7m1 : Method := { name := "<init>", desc := "(I)V", sig := { parameters := [.int], returnType := none }, accessFlags := 1, code := some k7c1 }
/-- java/lang/Integer -/
def k7 : Class := { plain "java/lang/Integer" (some 3) with
  accessFlags := 49
  interfaces := #[4, 5, 6]
  cf := some (fileOf pool7 1 #[.nestMembers #[189]] #[{ accessFlags := 9, nameIndex := 187, descriptorIndex := 188, attributes := #[] }, { accessFlags := 1, nameIndex := 67, descriptorIndex := 201, attributes := #[] }] 49 203 #[304, 306, 308] #[{ accessFlags := 25, nameIndex := 310, descriptorIndex := 194, attributes := #[] }, { accessFlags := 25, nameIndex := 312, descriptorIndex := 194, attributes := #[] }, { accessFlags := 25, nameIndex := 302, descriptorIndex := 303, attributes := #[] }, { accessFlags := 24, nameIndex := 19, descriptorIndex := 20, attributes := #[] }, { accessFlags := 24, nameIndex := 89, descriptorIndex := 86, attributes := #[] }, { accessFlags := 24, nameIndex := 85, descriptorIndex := 86, attributes := #[] }, { accessFlags := 18, nameIndex := 207, descriptorIndex := 194, attributes := #[] }, { accessFlags := 25, nameIndex := 316, descriptorIndex := 194, attributes := #[] }, { accessFlags := 25, nameIndex := 318, descriptorIndex := 194, attributes := #[] }, { accessFlags := 26, nameIndex := 320, descriptorIndex := 321, attributes := #[] }])
  fields := #[{ name := "MIN_VALUE", type := .int, accessFlags := 25, slot := 0, constantValue := 0 }, { name := "MAX_VALUE", type := .int, accessFlags := 25, slot := 1, constantValue := 0 }, { name := "TYPE", type := (.object "java/lang/Class"), accessFlags := 25, slot := 2, constantValue := 0 }, { name := "digits", type := (.array .char), accessFlags := 24, slot := 3, constantValue := 0 }, { name := "DigitTens", type := (.array .byte), accessFlags := 24, slot := 4, constantValue := 0 }, { name := "DigitOnes", type := (.array .byte), accessFlags := 24, slot := 5, constantValue := 0 }, { name := "value", type := .int, accessFlags := 18, slot := 0, constantValue := 0 }, { name := "SIZE", type := .int, accessFlags := 25, slot := 6, constantValue := 0 }, { name := "BYTES", type := .int, accessFlags := 25, slot := 7, constantValue := 0 }, { name := "serialVersionUID", type := .long, accessFlags := 26, slot := 8, constantValue := 0 }]
  methods := #[k7m0, k7m1]
  instanceTypes := #[.int]
  staticTypes := #[.int, .int, (.object "java/lang/Class"), (.array .char), (.array .byte), (.array .byte), .int, .int, .long]
  resolved := Array.replicate 453 none
  statics := none }

def pool8 : Array CpInfo := pool [(2, .class_ 4), (1, u "java/lang/Object"), (0, u "<init>"), (0, u "()V"), (0, .class_ 8), (0, u "java/lang/Integer"), (7, .class_ 18), (1, u "java/lang/Integer$IntegerCache"), (0, u "$assertionsDisabled"), (0, u "Z"), (26, u "high"), (0, u "I"), (8, u "archivedCache"), (0, u "[Ljava/lang/Integer;"), (12, u "cache"), (0, u "low")] 27

def k8m0 : Method := { name := "<init>", desc := "()V", sig := { parameters := [], returnType := none }, accessFlags := 2, code := none }
/-- java/lang/Integer$IntegerCache -/
def k8 : Class := { plain "java/lang/Integer$IntegerCache" (some 0) with
  accessFlags := 48
  interfaces := #[]
  cf := some (fileOf pool8 16 #[.nestHost 7] #[{ accessFlags := 2, nameIndex := 5, descriptorIndex := 6, attributes := #[] }] 48 2 #[] #[{ accessFlags := 24, nameIndex := 72, descriptorIndex := 48, attributes := #[] }, { accessFlags := 24, nameIndex := 47, descriptorIndex := 48, attributes := #[] }, { accessFlags := 24, nameIndex := 71, descriptorIndex := 58, attributes := #[] }, { accessFlags := 8, nameIndex := 57, descriptorIndex := 58, attributes := #[] }, { accessFlags := 4120, nameIndex := 19, descriptorIndex := 20, attributes := #[] }])
  fields := #[{ name := "low", type := .int, accessFlags := 24, slot := 0, constantValue := 0 }, { name := "high", type := .int, accessFlags := 24, slot := 1, constantValue := 0 }, { name := "cache", type := (.array (.object "java/lang/Integer")), accessFlags := 24, slot := 2, constantValue := 0 }, { name := "archivedCache", type := (.array (.object "java/lang/Integer")), accessFlags := 8, slot := 3, constantValue := 0 }, { name := "$assertionsDisabled", type := .boolean, accessFlags := 4120, slot := 4, constantValue := 0 }]
  methods := #[k8m0]
  instanceTypes := #[]
  staticTypes := #[.int, .int, (.array (.object "java/lang/Integer")), (.array (.object "java/lang/Integer")), .boolean]
  resolved := Array.replicate 100 none
  statics := some 0 }

def pool9 : Array CpInfo := pool [(1, .methodref 2 3), (0, .class_ 4), (0, .nameAndType 5 6), (0, u "java/lang/Object"), (0, u "<init>"), (0, u "()V"), (1, .class_ 10), (1, u "com/example/hasten/hasten/Envelope"), (0, u "asynchronous"), (0, u "Z"), (2, u "atFront"), (2, u "STATE"), (0, u "Ljava/lang/invoke/VarHandle;"), (23, u "target"), (0, u "Lcom/example/hasten/hasten/Envelope$Target;"), (2, u "callback"), (0, u "Ljava/lang/Runnable;"), (2, u "when"), (0, u "J"), (6, .class_ 60), (0, u "com/example/hasten/hasten/Envelope$Discardable"), (5, u "state"), (0, u "S"), (1, .class_ 71), (1, u "com/example/hasten/hasten/Envelope$Target"), (34, u "PENDING"), (2, u "DISPATCHING"), (1, u "sequence"), (0, u "clockOrder"), (0, u "next"), (0, u "Lcom/example/hasten/hasten/Envelope;"), (0, u "depth"), (0, u "I")] 24

def k9c0 : Code := { maxStack := 1, maxLocals := 1, code := prog_10_method_1_code, exceptionTable := #[], attributes := #[] }
def k9m0 : Method := { name := "<init>", desc := "()V", sig := { parameters := [], returnType := none }, accessFlags := 0, code := some k9c0 }
/-- com/example/hasten/hasten/Envelope -/
def k9 : Class := { plain "com/example/hasten/hasten/Envelope" (some 0) with
  accessFlags := 32
  interfaces := #[]
  cf := some (fileOf pool9 8 #[.nestMembers #[59, 69]] #[{ accessFlags := 0, nameIndex := 5, descriptorIndex := 6, attributes := #[] }] 32 2 #[] #[{ accessFlags := 26, nameIndex := 106, descriptorIndex := 67, attributes := #[] }, { accessFlags := 26, nameIndex := 109, descriptorIndex := 67, attributes := #[] }, { accessFlags := 26, nameIndex := 18, descriptorIndex := 19, attributes := #[] }, { accessFlags := 0, nameIndex := 43, descriptorIndex := 44, attributes := #[] }, { accessFlags := 0, nameIndex := 47, descriptorIndex := 48, attributes := #[] }, { accessFlags := 0, nameIndex := 51, descriptorIndex := 52, attributes := #[] }, { accessFlags := 0, nameIndex := 111, descriptorIndex := 52, attributes := #[] }, { accessFlags := 0, nameIndex := 112, descriptorIndex := 52, attributes := #[] }, { accessFlags := 2, nameIndex := 66, descriptorIndex := 67, attributes := #[] }, { accessFlags := 0, nameIndex := 11, descriptorIndex := 12, attributes := #[] }, { accessFlags := 0, nameIndex := 15, descriptorIndex := 12, attributes := #[] }, { accessFlags := 0, nameIndex := 113, descriptorIndex := 114, attributes := #[] }, { accessFlags := 0, nameIndex := 115, descriptorIndex := 116, attributes := #[] }])
  fields := #[{ name := "PENDING", type := .short, accessFlags := 26, slot := 0, constantValue := 0 }, { name := "DISPATCHING", type := .short, accessFlags := 26, slot := 1, constantValue := 0 }, { name := "STATE", type := (.object "java/lang/invoke/VarHandle"), accessFlags := 26, slot := 2, constantValue := 0 }, { name := "target", type := (.object "com/example/hasten/hasten/Envelope$Target"), accessFlags := 0, slot := 0, constantValue := 0 }, { name := "callback", type := (.object "java/lang/Runnable"), accessFlags := 0, slot := 1, constantValue := 0 }, { name := "when", type := .long, accessFlags := 0, slot := 2, constantValue := 0 }, { name := "sequence", type := .long, accessFlags := 0, slot := 3, constantValue := 0 }, { name := "clockOrder", type := .long, accessFlags := 0, slot := 4, constantValue := 0 }, { name := "state", type := .short, accessFlags := 2, slot := 5, constantValue := 0 }, { name := "asynchronous", type := .boolean, accessFlags := 0, slot := 6, constantValue := 0 }, { name := "atFront", type := .boolean, accessFlags := 0, slot := 7, constantValue := 0 }, { name := "next", type := (.object "com/example/hasten/hasten/Envelope"), accessFlags := 0, slot := 8, constantValue := 0 }, { name := "depth", type := .int, accessFlags := 0, slot := 9, constantValue := 0 }]
  methods := #[k9m0]
  instanceTypes := #[(.object "com/example/hasten/hasten/Envelope$Target"), (.object "java/lang/Runnable"), .long, .long, .long, .short, .boolean, .boolean, (.object "com/example/hasten/hasten/Envelope"), .int]
  staticTypes := #[.short, .short, (.object "java/lang/invoke/VarHandle")]
  resolved := Array.replicate 141 none
  statics := none }

def pool10 : Array CpInfo := pool [(1, .methodref 2 3), (0, .class_ 4), (0, .nameAndType 5 6), (0, u "com/example/hasten/hasten/Envelope"), (0, u "<init>"), (0, u "()V"), (0, .class_ 8), (0, u "com/example/hasten/hasten/Message"), (9, .fieldref 7 19), (0, .nameAndType 20 21), (0, u "callback"), (0, u "Ljava/lang/Runnable;"), (3, .fieldref 7 26), (0, .nameAndType 27 28), (0, u "what"), (0, u "I"), (0, .fieldref 7 30), (0, .nameAndType 31 28), (0, u "arg1"), (0, .fieldref 7 33), (0, .nameAndType 34 28), (0, u "arg2"), (0, .fieldref 7 36), (0, .nameAndType 37 38), (0, u "obj"), (0, u "Ljava/lang/Object;"), (4, .fieldref 7 44), (0, .nameAndType 45 46), (0, u "when"), (0, u "J"), (0, .fieldref 7 48), (0, .nameAndType 49 50), (0, u "asynchronous"), (0, u "Z"), (65, u "()Z"), (42, u "getWhen"), (0, u "()J"), (0, u "isAsynchronous"), (0, u "setAsynchronous"), (0, u "(Z)V"), (0, u "copyFrom"), (0, u "(Lcom/example/hasten/hasten/Message;)V"), (3, u "getCallback"), (0, u "()Ljava/lang/Runnable;")] 7

def k10c0 : Code := { maxStack := 1, maxLocals := 1, code := prog_32_method_1_code, exceptionTable := #[], attributes := #[] }
def k10m0 : Method := { name := "<init>", desc := "()V", sig := { parameters := [], returnType := none }, accessFlags := 1, code := some k10c0 }
def k10c1 : Code := { maxStack := 2, maxLocals := 1, code := prog_32_method_12_code, exceptionTable := #[], attributes := #[] }
def k10m1 : Method := { name := "getWhen", desc := "()J", sig := { parameters := [], returnType := some .long }, accessFlags := 1, code := some k10c1 }
def k10c2 : Code := { maxStack := 1, maxLocals := 1, code := prog_32_method_13_code, exceptionTable := #[], attributes := #[] }
def k10m2 : Method := { name := "isAsynchronous", desc := "()Z", sig := { parameters := [], returnType := some .boolean }, accessFlags := 1, code := some k10c2 }
def k10c3 : Code := { maxStack := 2, maxLocals := 2, code := prog_32_method_14_code, exceptionTable := #[], attributes := #[] }
def k10m3 : Method := { name := "setAsynchronous", desc := "(Z)V", sig := { parameters := [.boolean], returnType := none }, accessFlags := 1, code := some k10c3 }
def k10c4 : Code := { maxStack := 2, maxLocals := 2, code := prog_32_method_15_code, exceptionTable := #[], attributes := #[] }
def k10m4 : Method := { name := "copyFrom", desc := "(Lcom/example/hasten/hasten/Message;)V", sig := { parameters := [(.object "com/example/hasten/hasten/Message")], returnType := none }, accessFlags := 1, code := some k10c4 }
def k10c5 : Code := { maxStack := 1, maxLocals := 1, code := prog_32_method_18_code, exceptionTable := #[], attributes := #[] }
def k10m5 : Method := { name := "getCallback", desc := "()Ljava/lang/Runnable;", sig := { parameters := [], returnType := some (.object "java/lang/Runnable") }, accessFlags := 1, code := some k10c5 }
/-- com/example/hasten/hasten/Message -/
def k10 : Class := { plain "com/example/hasten/hasten/Message" (some 9) with
  accessFlags := 33
  interfaces := #[]
  cf := some (fileOf pool10 7 #[] #[{ accessFlags := 1, nameIndex := 5, descriptorIndex := 6, attributes := #[] }, { accessFlags := 1, nameIndex := 159, descriptorIndex := 160, attributes := #[] }, { accessFlags := 1, nameIndex := 161, descriptorIndex := 116, attributes := #[] }, { accessFlags := 1, nameIndex := 162, descriptorIndex := 163, attributes := #[] }, { accessFlags := 1, nameIndex := 164, descriptorIndex := 165, attributes := #[] }, { accessFlags := 1, nameIndex := 169, descriptorIndex := 170, attributes := #[] }] 33 2 #[] #[{ accessFlags := 1, nameIndex := 27, descriptorIndex := 28, attributes := #[] }, { accessFlags := 1, nameIndex := 31, descriptorIndex := 28, attributes := #[] }, { accessFlags := 1, nameIndex := 34, descriptorIndex := 28, attributes := #[] }, { accessFlags := 1, nameIndex := 37, descriptorIndex := 38, attributes := #[] }])
  fields := #[{ name := "what", type := .int, accessFlags := 1, slot := 10, constantValue := 0 }, { name := "arg1", type := .int, accessFlags := 1, slot := 11, constantValue := 0 }, { name := "arg2", type := .int, accessFlags := 1, slot := 12, constantValue := 0 }, { name := "obj", type := (.object "java/lang/Object"), accessFlags := 1, slot := 13, constantValue := 0 }]
  methods := #[k10m0, k10m1, k10m2, k10m3, k10m4, k10m5]
  instanceTypes := #[(.object "com/example/hasten/hasten/Envelope$Target"), (.object "java/lang/Runnable"), .long, .long, .long, .short, .boolean, .boolean, (.object "com/example/hasten/hasten/Envelope"), .int, .int, .int, .int, (.object "java/lang/Object")]
  staticTypes := #[]
  resolved := Array.replicate 178 none
  statics := none }

def pool11 : Array CpInfo := pool [(1, u "java/lang/Cloneable"), (0, .class_ 1), (0, u "java/lang/Object"), (0, .class_ 3)] 3

/-- java/lang/Cloneable -/
def k11 : Class := { plain "java/lang/Cloneable" (some 0) with
  accessFlags := 1537
  interfaces := #[]
  cf := some (fileOf pool11 2 #[] #[] 1537 4 #[] #[])
  fields := #[]
  methods := #[]
  instanceTypes := #[]
  staticTypes := #[]
  resolved := Array.replicate 8 none
  statics := none }

/-- the primitive byte -/
def k12 : Class := { plain "byte" none with kind := .primitive 'B', accessFlags := 0x411 }
/-- [B -/
def k13 : Class := { plain "[B" (some 0) with kind := .array 12 .byte, interfaces := #[11, 2], accessFlags := 1041 }

/-- the primitive int -/
def k14 : Class := { plain "int" none with kind := .primitive 'I', accessFlags := 0x411 }
/-- [I -/
def k15 : Class := { plain "[I" (some 0) with kind := .array 14 .int, interfaces := #[11, 2], accessFlags := 1041 }

/-- [Ljava/lang/Integer; -/
def k16 : Class := { plain "[Ljava/lang/Integer;" (some 0) with kind := .array 7 (.object "java/lang/Integer"), interfaces := #[11, 2], accessFlags := 1041 }

def heap : Heap := #[{ cls := 8, slots := #[.int 0, .int 127, .ref 1, .null, .int 0], vm := .statics 8 },
  { cls := 16, slots := #[.ref 2, .ref 3, .ref 4, .ref 5, .ref 6, .ref 7, .ref 8, .ref 9, .ref 10, .ref 11, .ref 12, .ref 13, .ref 14, .ref 15, .ref 16, .ref 17, .ref 18, .ref 19, .ref 20, .ref 21, .ref 22, .ref 23, .ref 24, .ref 25, .ref 26, .ref 27, .ref 28, .ref 29, .ref 30, .ref 31, .ref 32, .ref 33, .ref 34, .ref 35, .ref 36, .ref 37, .ref 38, .ref 39, .ref 40, .ref 41, .ref 42, .ref 43, .ref 44, .ref 45, .ref 46, .ref 47, .ref 48, .ref 49, .ref 50, .ref 51, .ref 52, .ref 53, .ref 54, .ref 55, .ref 56, .ref 57, .ref 58, .ref 59, .ref 60, .ref 61, .ref 62, .ref 63, .ref 64, .ref 65, .ref 66, .ref 67, .ref 68, .ref 69, .ref 70, .ref 71, .ref 72, .ref 73, .ref 74, .ref 75, .ref 76, .ref 77, .ref 78, .ref 79, .ref 80, .ref 81, .ref 82, .ref 83, .ref 84, .ref 85, .ref 86, .ref 87, .ref 88, .ref 89, .ref 90, .ref 91, .ref 92, .ref 93, .ref 94, .ref 95, .ref 96, .ref 97, .ref 98, .ref 99, .ref 100, .ref 101, .ref 102, .ref 103, .ref 104, .ref 105, .ref 106, .ref 107, .ref 108, .ref 109, .ref 110, .ref 111, .ref 112, .ref 113, .ref 114, .ref 115, .ref 116, .ref 117, .ref 118, .ref 119, .ref 120, .ref 121, .ref 122, .ref 123, .ref 124, .ref 125, .ref 126, .ref 127, .ref 128, .ref 129, .ref 130, .ref 131, .ref 132, .ref 133, .ref 134, .ref 135, .ref 136, .ref 137, .ref 138, .ref 139, .ref 140, .ref 141, .ref 142, .ref 143, .ref 144, .ref 145, .ref 146, .ref 147, .ref 148, .ref 149, .ref 150, .ref 151, .ref 152, .ref 153, .ref 154, .ref 155, .ref 156, .ref 157, .ref 158, .ref 159, .ref 160, .ref 161, .ref 162, .ref 163, .ref 164, .ref 165, .ref 166, .ref 167, .ref 168, .ref 169, .ref 170, .ref 171, .ref 172, .ref 173, .ref 174, .ref 175, .ref 176, .ref 177, .ref 178, .ref 179, .ref 180, .ref 181, .ref 182, .ref 183, .ref 184, .ref 185, .ref 186, .ref 187, .ref 188, .ref 189, .ref 190, .ref 191, .ref 192, .ref 193, .ref 194, .ref 195, .ref 196, .ref 197, .ref 198, .ref 199, .ref 200, .ref 201, .ref 202, .ref 203, .ref 204, .ref 205, .ref 206, .ref 207, .ref 208, .ref 209, .ref 210, .ref 211, .ref 212, .ref 213, .ref 214, .ref 215, .ref 216, .ref 217, .ref 218, .ref 219, .ref 220, .ref 221, .ref 222, .ref 223, .ref 224, .ref 225, .ref 226, .ref 227, .ref 228, .ref 229, .ref 230, .ref 231, .ref 232, .ref 233, .ref 234, .ref 235, .ref 236, .ref 237, .ref 238, .ref 239, .ref 240, .ref 241, .ref 242, .ref 243, .ref 244, .ref 245, .ref 246, .ref 247, .ref 248, .ref 249, .ref 250, .ref 251, .ref 252, .ref 253, .ref 254, .ref 255, .ref 256, .ref 257], vm := .none },
  { cls := 7, slots := #[.int (-128)], vm := .none },
  { cls := 7, slots := #[.int (-127)], vm := .none },
  { cls := 7, slots := #[.int (-126)], vm := .none },
  { cls := 7, slots := #[.int (-125)], vm := .none },
  { cls := 7, slots := #[.int (-124)], vm := .none },
  { cls := 7, slots := #[.int (-123)], vm := .none },
  { cls := 7, slots := #[.int (-122)], vm := .none },
  { cls := 7, slots := #[.int (-121)], vm := .none },
  { cls := 7, slots := #[.int (-120)], vm := .none },
  { cls := 7, slots := #[.int (-119)], vm := .none },
  { cls := 7, slots := #[.int (-118)], vm := .none },
  { cls := 7, slots := #[.int (-117)], vm := .none },
  { cls := 7, slots := #[.int (-116)], vm := .none },
  { cls := 7, slots := #[.int (-115)], vm := .none },
  { cls := 7, slots := #[.int (-114)], vm := .none },
  { cls := 7, slots := #[.int (-113)], vm := .none },
  { cls := 7, slots := #[.int (-112)], vm := .none },
  { cls := 7, slots := #[.int (-111)], vm := .none },
  { cls := 7, slots := #[.int (-110)], vm := .none },
  { cls := 7, slots := #[.int (-109)], vm := .none },
  { cls := 7, slots := #[.int (-108)], vm := .none },
  { cls := 7, slots := #[.int (-107)], vm := .none },
  { cls := 7, slots := #[.int (-106)], vm := .none },
  { cls := 7, slots := #[.int (-105)], vm := .none },
  { cls := 7, slots := #[.int (-104)], vm := .none },
  { cls := 7, slots := #[.int (-103)], vm := .none },
  { cls := 7, slots := #[.int (-102)], vm := .none },
  { cls := 7, slots := #[.int (-101)], vm := .none },
  { cls := 7, slots := #[.int (-100)], vm := .none },
  { cls := 7, slots := #[.int (-99)], vm := .none },
  { cls := 7, slots := #[.int (-98)], vm := .none },
  { cls := 7, slots := #[.int (-97)], vm := .none },
  { cls := 7, slots := #[.int (-96)], vm := .none },
  { cls := 7, slots := #[.int (-95)], vm := .none },
  { cls := 7, slots := #[.int (-94)], vm := .none },
  { cls := 7, slots := #[.int (-93)], vm := .none },
  { cls := 7, slots := #[.int (-92)], vm := .none },
  { cls := 7, slots := #[.int (-91)], vm := .none },
  { cls := 7, slots := #[.int (-90)], vm := .none },
  { cls := 7, slots := #[.int (-89)], vm := .none },
  { cls := 7, slots := #[.int (-88)], vm := .none },
  { cls := 7, slots := #[.int (-87)], vm := .none },
  { cls := 7, slots := #[.int (-86)], vm := .none },
  { cls := 7, slots := #[.int (-85)], vm := .none },
  { cls := 7, slots := #[.int (-84)], vm := .none },
  { cls := 7, slots := #[.int (-83)], vm := .none },
  { cls := 7, slots := #[.int (-82)], vm := .none },
  { cls := 7, slots := #[.int (-81)], vm := .none },
  { cls := 7, slots := #[.int (-80)], vm := .none },
  { cls := 7, slots := #[.int (-79)], vm := .none },
  { cls := 7, slots := #[.int (-78)], vm := .none },
  { cls := 7, slots := #[.int (-77)], vm := .none },
  { cls := 7, slots := #[.int (-76)], vm := .none },
  { cls := 7, slots := #[.int (-75)], vm := .none },
  { cls := 7, slots := #[.int (-74)], vm := .none },
  { cls := 7, slots := #[.int (-73)], vm := .none },
  { cls := 7, slots := #[.int (-72)], vm := .none },
  { cls := 7, slots := #[.int (-71)], vm := .none },
  { cls := 7, slots := #[.int (-70)], vm := .none },
  { cls := 7, slots := #[.int (-69)], vm := .none },
  { cls := 7, slots := #[.int (-68)], vm := .none },
  { cls := 7, slots := #[.int (-67)], vm := .none },
  { cls := 7, slots := #[.int (-66)], vm := .none },
  { cls := 7, slots := #[.int (-65)], vm := .none },
  { cls := 7, slots := #[.int (-64)], vm := .none },
  { cls := 7, slots := #[.int (-63)], vm := .none },
  { cls := 7, slots := #[.int (-62)], vm := .none },
  { cls := 7, slots := #[.int (-61)], vm := .none },
  { cls := 7, slots := #[.int (-60)], vm := .none },
  { cls := 7, slots := #[.int (-59)], vm := .none },
  { cls := 7, slots := #[.int (-58)], vm := .none },
  { cls := 7, slots := #[.int (-57)], vm := .none },
  { cls := 7, slots := #[.int (-56)], vm := .none },
  { cls := 7, slots := #[.int (-55)], vm := .none },
  { cls := 7, slots := #[.int (-54)], vm := .none },
  { cls := 7, slots := #[.int (-53)], vm := .none },
  { cls := 7, slots := #[.int (-52)], vm := .none },
  { cls := 7, slots := #[.int (-51)], vm := .none },
  { cls := 7, slots := #[.int (-50)], vm := .none },
  { cls := 7, slots := #[.int (-49)], vm := .none },
  { cls := 7, slots := #[.int (-48)], vm := .none },
  { cls := 7, slots := #[.int (-47)], vm := .none },
  { cls := 7, slots := #[.int (-46)], vm := .none },
  { cls := 7, slots := #[.int (-45)], vm := .none },
  { cls := 7, slots := #[.int (-44)], vm := .none },
  { cls := 7, slots := #[.int (-43)], vm := .none },
  { cls := 7, slots := #[.int (-42)], vm := .none },
  { cls := 7, slots := #[.int (-41)], vm := .none },
  { cls := 7, slots := #[.int (-40)], vm := .none },
  { cls := 7, slots := #[.int (-39)], vm := .none },
  { cls := 7, slots := #[.int (-38)], vm := .none },
  { cls := 7, slots := #[.int (-37)], vm := .none },
  { cls := 7, slots := #[.int (-36)], vm := .none },
  { cls := 7, slots := #[.int (-35)], vm := .none },
  { cls := 7, slots := #[.int (-34)], vm := .none },
  { cls := 7, slots := #[.int (-33)], vm := .none },
  { cls := 7, slots := #[.int (-32)], vm := .none },
  { cls := 7, slots := #[.int (-31)], vm := .none },
  { cls := 7, slots := #[.int (-30)], vm := .none },
  { cls := 7, slots := #[.int (-29)], vm := .none },
  { cls := 7, slots := #[.int (-28)], vm := .none },
  { cls := 7, slots := #[.int (-27)], vm := .none },
  { cls := 7, slots := #[.int (-26)], vm := .none },
  { cls := 7, slots := #[.int (-25)], vm := .none },
  { cls := 7, slots := #[.int (-24)], vm := .none },
  { cls := 7, slots := #[.int (-23)], vm := .none },
  { cls := 7, slots := #[.int (-22)], vm := .none },
  { cls := 7, slots := #[.int (-21)], vm := .none },
  { cls := 7, slots := #[.int (-20)], vm := .none },
  { cls := 7, slots := #[.int (-19)], vm := .none },
  { cls := 7, slots := #[.int (-18)], vm := .none },
  { cls := 7, slots := #[.int (-17)], vm := .none },
  { cls := 7, slots := #[.int (-16)], vm := .none },
  { cls := 7, slots := #[.int (-15)], vm := .none },
  { cls := 7, slots := #[.int (-14)], vm := .none },
  { cls := 7, slots := #[.int (-13)], vm := .none },
  { cls := 7, slots := #[.int (-12)], vm := .none },
  { cls := 7, slots := #[.int (-11)], vm := .none },
  { cls := 7, slots := #[.int (-10)], vm := .none },
  { cls := 7, slots := #[.int (-9)], vm := .none },
  { cls := 7, slots := #[.int (-8)], vm := .none },
  { cls := 7, slots := #[.int (-7)], vm := .none },
  { cls := 7, slots := #[.int (-6)], vm := .none },
  { cls := 7, slots := #[.int (-5)], vm := .none },
  { cls := 7, slots := #[.int (-4)], vm := .none },
  { cls := 7, slots := #[.int (-3)], vm := .none },
  { cls := 7, slots := #[.int (-2)], vm := .none },
  { cls := 7, slots := #[.int (-1)], vm := .none },
  { cls := 7, slots := #[.int 0], vm := .none },
  { cls := 7, slots := #[.int 1], vm := .none },
  { cls := 7, slots := #[.int 2], vm := .none },
  { cls := 7, slots := #[.int 3], vm := .none },
  { cls := 7, slots := #[.int 4], vm := .none },
  { cls := 7, slots := #[.int 5], vm := .none },
  { cls := 7, slots := #[.int 6], vm := .none },
  { cls := 7, slots := #[.int 7], vm := .none },
  { cls := 7, slots := #[.int 8], vm := .none },
  { cls := 7, slots := #[.int 9], vm := .none },
  { cls := 7, slots := #[.int 10], vm := .none },
  { cls := 7, slots := #[.int 11], vm := .none },
  { cls := 7, slots := #[.int 12], vm := .none },
  { cls := 7, slots := #[.int 13], vm := .none },
  { cls := 7, slots := #[.int 14], vm := .none },
  { cls := 7, slots := #[.int 15], vm := .none },
  { cls := 7, slots := #[.int 16], vm := .none },
  { cls := 7, slots := #[.int 17], vm := .none },
  { cls := 7, slots := #[.int 18], vm := .none },
  { cls := 7, slots := #[.int 19], vm := .none },
  { cls := 7, slots := #[.int 20], vm := .none },
  { cls := 7, slots := #[.int 21], vm := .none },
  { cls := 7, slots := #[.int 22], vm := .none },
  { cls := 7, slots := #[.int 23], vm := .none },
  { cls := 7, slots := #[.int 24], vm := .none },
  { cls := 7, slots := #[.int 25], vm := .none },
  { cls := 7, slots := #[.int 26], vm := .none },
  { cls := 7, slots := #[.int 27], vm := .none },
  { cls := 7, slots := #[.int 28], vm := .none },
  { cls := 7, slots := #[.int 29], vm := .none },
  { cls := 7, slots := #[.int 30], vm := .none },
  { cls := 7, slots := #[.int 31], vm := .none },
  { cls := 7, slots := #[.int 32], vm := .none },
  { cls := 7, slots := #[.int 33], vm := .none },
  { cls := 7, slots := #[.int 34], vm := .none },
  { cls := 7, slots := #[.int 35], vm := .none },
  { cls := 7, slots := #[.int 36], vm := .none },
  { cls := 7, slots := #[.int 37], vm := .none },
  { cls := 7, slots := #[.int 38], vm := .none },
  { cls := 7, slots := #[.int 39], vm := .none },
  { cls := 7, slots := #[.int 40], vm := .none },
  { cls := 7, slots := #[.int 41], vm := .none },
  { cls := 7, slots := #[.int 42], vm := .none },
  { cls := 7, slots := #[.int 43], vm := .none },
  { cls := 7, slots := #[.int 44], vm := .none },
  { cls := 7, slots := #[.int 45], vm := .none },
  { cls := 7, slots := #[.int 46], vm := .none },
  { cls := 7, slots := #[.int 47], vm := .none },
  { cls := 7, slots := #[.int 48], vm := .none },
  { cls := 7, slots := #[.int 49], vm := .none },
  { cls := 7, slots := #[.int 50], vm := .none },
  { cls := 7, slots := #[.int 51], vm := .none },
  { cls := 7, slots := #[.int 52], vm := .none },
  { cls := 7, slots := #[.int 53], vm := .none },
  { cls := 7, slots := #[.int 54], vm := .none },
  { cls := 7, slots := #[.int 55], vm := .none },
  { cls := 7, slots := #[.int 56], vm := .none },
  { cls := 7, slots := #[.int 57], vm := .none },
  { cls := 7, slots := #[.int 58], vm := .none },
  { cls := 7, slots := #[.int 59], vm := .none },
  { cls := 7, slots := #[.int 60], vm := .none },
  { cls := 7, slots := #[.int 61], vm := .none },
  { cls := 7, slots := #[.int 62], vm := .none },
  { cls := 7, slots := #[.int 63], vm := .none },
  { cls := 7, slots := #[.int 64], vm := .none },
  { cls := 7, slots := #[.int 65], vm := .none },
  { cls := 7, slots := #[.int 66], vm := .none },
  { cls := 7, slots := #[.int 67], vm := .none },
  { cls := 7, slots := #[.int 68], vm := .none },
  { cls := 7, slots := #[.int 69], vm := .none },
  { cls := 7, slots := #[.int 70], vm := .none },
  { cls := 7, slots := #[.int 71], vm := .none },
  { cls := 7, slots := #[.int 72], vm := .none },
  { cls := 7, slots := #[.int 73], vm := .none },
  { cls := 7, slots := #[.int 74], vm := .none },
  { cls := 7, slots := #[.int 75], vm := .none },
  { cls := 7, slots := #[.int 76], vm := .none },
  { cls := 7, slots := #[.int 77], vm := .none },
  { cls := 7, slots := #[.int 78], vm := .none },
  { cls := 7, slots := #[.int 79], vm := .none },
  { cls := 7, slots := #[.int 80], vm := .none },
  { cls := 7, slots := #[.int 81], vm := .none },
  { cls := 7, slots := #[.int 82], vm := .none },
  { cls := 7, slots := #[.int 83], vm := .none },
  { cls := 7, slots := #[.int 84], vm := .none },
  { cls := 7, slots := #[.int 85], vm := .none },
  { cls := 7, slots := #[.int 86], vm := .none },
  { cls := 7, slots := #[.int 87], vm := .none },
  { cls := 7, slots := #[.int 88], vm := .none },
  { cls := 7, slots := #[.int 89], vm := .none },
  { cls := 7, slots := #[.int 90], vm := .none },
  { cls := 7, slots := #[.int 91], vm := .none },
  { cls := 7, slots := #[.int 92], vm := .none },
  { cls := 7, slots := #[.int 93], vm := .none },
  { cls := 7, slots := #[.int 94], vm := .none },
  { cls := 7, slots := #[.int 95], vm := .none },
  { cls := 7, slots := #[.int 96], vm := .none },
  { cls := 7, slots := #[.int 97], vm := .none },
  { cls := 7, slots := #[.int 98], vm := .none },
  { cls := 7, slots := #[.int 99], vm := .none },
  { cls := 7, slots := #[.int 100], vm := .none },
  { cls := 7, slots := #[.int 101], vm := .none },
  { cls := 7, slots := #[.int 102], vm := .none },
  { cls := 7, slots := #[.int 103], vm := .none },
  { cls := 7, slots := #[.int 104], vm := .none },
  { cls := 7, slots := #[.int 105], vm := .none },
  { cls := 7, slots := #[.int 106], vm := .none },
  { cls := 7, slots := #[.int 107], vm := .none },
  { cls := 7, slots := #[.int 108], vm := .none },
  { cls := 7, slots := #[.int 109], vm := .none },
  { cls := 7, slots := #[.int 110], vm := .none },
  { cls := 7, slots := #[.int 111], vm := .none },
  { cls := 7, slots := #[.int 112], vm := .none },
  { cls := 7, slots := #[.int 113], vm := .none },
  { cls := 7, slots := #[.int 114], vm := .none },
  { cls := 7, slots := #[.int 115], vm := .none },
  { cls := 7, slots := #[.int 116], vm := .none },
  { cls := 7, slots := #[.int 117], vm := .none },
  { cls := 7, slots := #[.int 118], vm := .none },
  { cls := 7, slots := #[.int 119], vm := .none },
  { cls := 7, slots := #[.int 120], vm := .none },
  { cls := 7, slots := #[.int 121], vm := .none },
  { cls := 7, slots := #[.int 122], vm := .none },
  { cls := 7, slots := #[.int 123], vm := .none },
  { cls := 7, slots := #[.int 124], vm := .none },
  { cls := 7, slots := #[.int 125], vm := .none },
  { cls := 7, slots := #[.int 126], vm := .none },
  { cls := 7, slots := #[.int 127], vm := .none }]
def classes : Array Class := #[k0, k1, k2, k3, k4, k5, k6, k7, k8, k9, k10, k11, k12, k13, k14, k15, k16]
def interned : List (Array UInt16 × Addr) := []
def slotsUsed : Nat := 517
def theMethod : MethodId := ⟨1, 1⟩
def args0 : Array Value := #[.int 5, .int 3, .int 4, .int 7, .long 9, .int 91]
def aboutOver (below : List Frame) : State where
  vm := { classes := classes, interned := interned.toArray }
  heap := heap
  slotsUsed := slotsUsed
  threads := #[{ frames := .invoking theMethod args0 :: below }]
def below0 : List Frame := [.native { method := ⟨0, 0⟩, args := #[] }]
def about1 : State := aboutOver below0
def p0 : Program := .bare "" "" ""
def e0 : Env := launch0.env 0 0 0
theorem w_frames : about1.frames = Frame.invoking theMethod args0 :: below0 := rfl
set_option maxRecDepth 65536 in
theorem w_args : argsFit about1.vm theMethod args0 = true := by decide +kernel
set_option maxRecDepth 65536 in
theorem w_heap : heapFits about1 = true := by decide +kernel
set_option maxRecDepth 65536 in
theorem w_runnable : about1.curStatus? = some .runnable := by decide +kernel
set_option maxRecDepth 65536 in
theorem w_alone : about1.alone = true := by decide +kernel
set_option maxRecDepth 65536 in
theorem w_named : about1.methodNamed? x = some theMethod := by decide +kernel
set_option maxRecDepth 65536 in
theorem w_hears : about1.hears theMethod below0 = true := by decide +kernel
set_option maxRecDepth 65536 in
theorem w_ripe : about1.ripe theMethod args0 below0 = true := by decide +kernel
theorem w_running : about1.status = .running := rfl
set_option maxRecDepth 65536 in
theorem w_room : about1.hasRoom e0.platform room_1 = true :=
  launch0.hasRoom_least _ room_1 (by decide +kernel) (by decide +kernel) (by decide +kernel) (by decide +kernel) (by decide +kernel) (by decide +kernel)
theorem allAtoms_all (ts : List Jvm.Cond) (a : Array Jvm.Value) (st : Jvm.State) : (allAtoms ts).before a st = ts.all (fun c => c.before a st) := by
  induction ts with
  | nil => rfl
  | cons c t ih =>
    show (Jvm.Cond.and c (allAtoms t)).before a st = _
    rw [Jvm.Cond.before_and, ih, List.all_cons]
def words1 : List Jvm.Cond := Jvm.Cond.code x code maxLocals ret :: tables_1
/-- a 'code' word, met by the world's own term for the bytes: nothing is compared byte by byte -/
theorem code_word {y : MethodName} {bytes : ByteArray} {mx : Nat} {rt : Option FieldType} {a : Array Value} {s : State} {m : MethodId} {meth : Method} {c : Code} (h1 : s.methodNamed? y = some m) (h2 : s.vm.method? m = some meth) (h3 : meth.code = some c) (h4 : c.code = bytes)
    (h5 : (c.maxLocals == mx && c.exceptionTable.isEmpty && decide (c.maxStack ≤ mostOperands) && decide (meth.sig.returnType = rt) && !meth.locks && decide (parseMethodDescriptor y.desc = some meth.sig)) = true) : (Jvm.Cond.code y bytes mx rt).before a s = true := by
  simp only [Bool.and_eq_true, beq_iff_eq, Bool.not_eq_true', decide_eq_true_eq] at h5
  obtain ⟨⟨⟨⟨⟨g1, g2⟩, g3⟩, g4⟩, g5⟩, g6⟩ := h5
  simp [Cond.before, Cond.holds, Cond.value, h1, h2, h3, h4, g1, g2, g3, g4, g5, g6]
def isCode : Jvm.Cond → Bool
  | .code _ _ _ _ => true
  | _ => false
theorem all_split {L : List Jvm.Cond} {P : Jvm.Cond → Bool} (h1 : L.all (fun c => isCode c || P c) = true) (h2 : ∀ c ∈ L.filter isCode, P c = true) : L.all P = true := by
  refine List.all_eq_true.mpr fun c hc => ?_
  have h := List.all_eq_true.mp h1 c hc
  rcases Bool.eq_false_or_eq_true (isCode c) with hi | hi
  · exact h2 c (List.mem_filter.mpr ⟨hc, hi⟩)
  · simpa [hi] using h
set_option maxRecDepth 65536 in
theorem w_c0 : (Jvm.Cond.code x code maxLocals ret).before args0 about1 = true := code_word (m := ⟨1, 1⟩) (meth := k1m1) (c := k1c1) (by decide +kernel) rfl rfl rfl (by decide +kernel)
set_option maxRecDepth 65536 in
theorem w_c1 : (Jvm.Cond.code ({ cls := "java/lang/Integer", name := "valueOf", desc := "(I)Ljava/lang/Integer;" } : Jvm.MethodName) jdk_33_method_22_code (1 : Nat) (Option.some (Jvm.ClassFile.FieldType.object "java/lang/Integer"))).before args0 about1 = true := code_word (m := ⟨7, 0⟩) (meth := k7m0) (c := k7c0) (by decide +kernel) rfl rfl rfl (by decide +kernel)
set_option maxRecDepth 65536 in
theorem w_c2 : (Jvm.Cond.code ({ cls := "com/example/hasten/hasten/Message", name := "<init>", desc := "()V" } : Jvm.MethodName) prog_32_method_1_code (1 : Nat) (Option.none : Option Jvm.ClassFile.FieldType)).before args0 about1 = true := code_word (m := ⟨10, 0⟩) (meth := k10m0) (c := k10c0) (by decide +kernel) rfl rfl rfl (by decide +kernel)
set_option maxRecDepth 65536 in
theorem w_c3 : (Jvm.Cond.code ({ cls := "com/example/hasten/hasten/Envelope", name := "<init>", desc := "()V" } : Jvm.MethodName) prog_10_method_1_code (1 : Nat) (Option.none : Option Jvm.ClassFile.FieldType)).before args0 about1 = true := code_word (m := ⟨9, 0⟩) (meth := k9m0) (c := k9c0) (by decide +kernel) rfl rfl rfl (by decide +kernel)
set_option maxRecDepth 65536 in
theorem w_c4 : (Jvm.Cond.code ({ cls := "java/lang/Object", name := "<init>", desc := "()V" } : Jvm.MethodName) object_method_1_code (1 : Nat) (Option.none : Option Jvm.ClassFile.FieldType)).before args0 about1 = true := code_word (m := ⟨0, 0⟩) (meth := k0m0) (c := k0c0) (by decide +kernel) rfl rfl rfl (by decide +kernel)
set_option maxRecDepth 65536 in
theorem w_c5 : (Jvm.Cond.code ({ cls := "com/example/hasten/hasten/MessageCopyFromPinLaw", name := "pick", desc := "(ILjava/lang/Object;Ljava/lang/Object;)Ljava/lang/Object;" } : Jvm.MethodName) method_3_code (3 : Nat) (Option.some (Jvm.ClassFile.FieldType.object "java/lang/Object"))).before args0 about1 = true := code_word (m := ⟨1, 2⟩) (meth := k1m2) (c := k1c2) (by decide +kernel) rfl rfl rfl (by decide +kernel)
set_option maxRecDepth 65536 in
theorem w_c6 : (Jvm.Cond.code ({ cls := "com/example/hasten/hasten/Message", name := "setAsynchronous", desc := "(Z)V" } : Jvm.MethodName) prog_32_method_14_code (2 : Nat) (Option.none : Option Jvm.ClassFile.FieldType)).before args0 about1 = true := code_word (m := ⟨10, 3⟩) (meth := k10m3) (c := k10c3) (by decide +kernel) rfl rfl rfl (by decide +kernel)
set_option maxRecDepth 65536 in
theorem w_c7 : (Jvm.Cond.code ({ cls := "com/example/hasten/hasten/Message", name := "getWhen", desc := "()J" } : Jvm.MethodName) prog_32_method_12_code (1 : Nat) (Option.some Jvm.ClassFile.FieldType.long)).before args0 about1 = true := code_word (m := ⟨10, 1⟩) (meth := k10m1) (c := k10c1) (by decide +kernel) rfl rfl rfl (by decide +kernel)
set_option maxRecDepth 65536 in
theorem w_c8 : (Jvm.Cond.code ({ cls := "com/example/hasten/hasten/Message", name := "copyFrom", desc := "(Lcom/example/hasten/hasten/Message;)V" } : Jvm.MethodName) prog_32_method_15_code (2 : Nat) (Option.none : Option Jvm.ClassFile.FieldType)).before args0 about1 = true := code_word (m := ⟨10, 4⟩) (meth := k10m4) (c := k10c4) (by decide +kernel) rfl rfl rfl (by decide +kernel)
set_option maxRecDepth 65536 in
theorem w_c9 : (Jvm.Cond.code ({ cls := "com/example/hasten/hasten/Message", name := "isAsynchronous", desc := "()Z" } : Jvm.MethodName) prog_32_method_13_code (1 : Nat) (Option.some Jvm.ClassFile.FieldType.boolean)).before args0 about1 = true := code_word (m := ⟨10, 2⟩) (meth := k10m2) (c := k10c2) (by decide +kernel) rfl rfl rfl (by decide +kernel)
set_option maxRecDepth 65536 in
theorem w_c10 : (Jvm.Cond.code ({ cls := "com/example/hasten/hasten/Message", name := "getCallback", desc := "()Ljava/lang/Runnable;" } : Jvm.MethodName) prog_32_method_18_code (1 : Nat) (Option.some (Jvm.ClassFile.FieldType.object "java/lang/Runnable"))).before args0 about1 = true := code_word (m := ⟨10, 5⟩) (meth := k10m5) (c := k10c5) (by decide +kernel) rfl rfl rfl (by decide +kernel)
set_option maxRecDepth 65536 in
theorem w_c11 : (Jvm.Cond.code ({ cls := "java/lang/Integer", name := "<init>", desc := "(I)V" } : Jvm.MethodName) jdk_33_method_23_code (2 : Nat) (Option.none : Option Jvm.ClassFile.FieldType)).before args0 about1 = true := code_word (m := ⟨7, 1⟩) (meth := k7m1) (c := k7c1) (by decide +kernel) rfl rfl rfl (by decide +kernel)
set_option maxRecDepth 65536 in
theorem w_c12 : (Jvm.Cond.code ({ cls := "java/lang/Number", name := "<init>", desc := "()V" } : Jvm.MethodName) jdk_18_method_1_code (1 : Nat) (Option.none : Option Jvm.ClassFile.FieldType)).before args0 about1 = true := code_word (m := ⟨3, 0⟩) (meth := k3m0) (c := k3c0) (by decide +kernel) rfl rfl rfl (by decide +kernel)
def codes1 : List Jvm.Cond := [Jvm.Cond.code x code maxLocals ret, Jvm.Cond.code ({ cls := "java/lang/Integer", name := "valueOf", desc := "(I)Ljava/lang/Integer;" } : Jvm.MethodName) jdk_33_method_22_code (1 : Nat) (Option.some (Jvm.ClassFile.FieldType.object "java/lang/Integer")), Jvm.Cond.code ({ cls := "com/example/hasten/hasten/Message", name := "<init>", desc := "()V" } : Jvm.MethodName) prog_32_method_1_code (1 : Nat) (Option.none : Option Jvm.ClassFile.FieldType), Jvm.Cond.code ({ cls := "com/example/hasten/hasten/Envelope", name := "<init>", desc := "()V" } : Jvm.MethodName) prog_10_method_1_code (1 : Nat) (Option.none : Option Jvm.ClassFile.FieldType), Jvm.Cond.code ({ cls := "java/lang/Object", name := "<init>", desc := "()V" } : Jvm.MethodName) object_method_1_code (1 : Nat) (Option.none : Option Jvm.ClassFile.FieldType), Jvm.Cond.code ({ cls := "com/example/hasten/hasten/MessageCopyFromPinLaw", name := "pick", desc := "(ILjava/lang/Object;Ljava/lang/Object;)Ljava/lang/Object;" } : Jvm.MethodName) method_3_code (3 : Nat) (Option.some (Jvm.ClassFile.FieldType.object "java/lang/Object")), Jvm.Cond.code ({ cls := "com/example/hasten/hasten/Message", name := "setAsynchronous", desc := "(Z)V" } : Jvm.MethodName) prog_32_method_14_code (2 : Nat) (Option.none : Option Jvm.ClassFile.FieldType), Jvm.Cond.code ({ cls := "com/example/hasten/hasten/Message", name := "getWhen", desc := "()J" } : Jvm.MethodName) prog_32_method_12_code (1 : Nat) (Option.some Jvm.ClassFile.FieldType.long), Jvm.Cond.code ({ cls := "com/example/hasten/hasten/Message", name := "copyFrom", desc := "(Lcom/example/hasten/hasten/Message;)V" } : Jvm.MethodName) prog_32_method_15_code (2 : Nat) (Option.none : Option Jvm.ClassFile.FieldType), Jvm.Cond.code ({ cls := "com/example/hasten/hasten/Message", name := "isAsynchronous", desc := "()Z" } : Jvm.MethodName) prog_32_method_13_code (1 : Nat) (Option.some Jvm.ClassFile.FieldType.boolean), Jvm.Cond.code ({ cls := "com/example/hasten/hasten/Message", name := "getCallback", desc := "()Ljava/lang/Runnable;" } : Jvm.MethodName) prog_32_method_18_code (1 : Nat) (Option.some (Jvm.ClassFile.FieldType.object "java/lang/Runnable")), Jvm.Cond.code ({ cls := "java/lang/Integer", name := "<init>", desc := "(I)V" } : Jvm.MethodName) jdk_33_method_23_code (2 : Nat) (Option.none : Option Jvm.ClassFile.FieldType), Jvm.Cond.code ({ cls := "java/lang/Number", name := "<init>", desc := "()V" } : Jvm.MethodName) jdk_18_method_1_code (1 : Nat) (Option.none : Option Jvm.ClassFile.FieldType)]
set_option maxRecDepth 65536 in
theorem codes_eq : words1.filter isCode = codes1 := rfl
theorem w_codes : ∀ c ∈ words1.filter isCode, c.before args0 about1 = true := by
  rw [codes_eq]
  intro c hc
  simp only [codes1, List.mem_cons, List.not_mem_nil, or_false] at hc
  rcases hc with rfl | rfl | rfl | rfl | rfl | rfl | rfl | rfl | rfl | rfl | rfl | rfl | rfl
  · exact w_c0
  · exact w_c1
  · exact w_c2
  · exact w_c3
  · exact w_c4
  · exact w_c5
  · exact w_c6
  · exact w_c7
  · exact w_c8
  · exact w_c9
  · exact w_c10
  · exact w_c11
  · exact w_c12
set_option maxRecDepth 65536 in
theorem w_t1 : (words1.take 24).all (fun c => isCode c || c.before args0 about1) = true := by decide +kernel
set_option maxRecDepth 65536 in
theorem w_t2 : ((words1.drop 24).take 24).all (fun c => isCode c || c.before args0 about1) = true := by decide +kernel
set_option maxRecDepth 65536 in
theorem w_t3 : (((words1.drop 24).drop 24).take 24).all (fun c => isCode c || c.before args0 about1) = true := by decide +kernel
set_option maxRecDepth 65536 in
theorem w_t4 : (((words1.drop 24).drop 24).drop 24).all (fun c => isCode c || c.before args0 about1) = true := by decide +kernel
theorem w_tables : (allAtoms (Jvm.Cond.code x code maxLocals ret :: tables_1)).before args0 about1 = true := by
  rw [allAtoms_all]
  show words1.all (fun c => c.before args0 about1) = true
  refine all_split ?_ w_codes
  rw [← List.take_append_drop 24 words1, List.all_append, w_t1, ← List.take_append_drop 24 (words1.drop 24), List.all_append, w_t2, ← List.take_append_drop 24 ((words1.drop 24).drop 24), List.all_append, w_t3, w_t4]
  rfl
section OwnRest
open Jvm.RoadKit
def own_t : Jvm.Term := .static "java/lang/Integer$IntegerCache" "cache" "[Ljava/lang/Integer;"
def own_K : String := "java/lang/Integer"
set_option maxRecDepth 65536 in
theorem own_ev : own_t.eval args0 about1 none [] about1 = some (.ref 1) := by decide +kernel
set_option maxRecDepth 65536 in
theorem own_arr1 : (about1.arrayAt? 1).map (fun c => c.slots.size) = some 256 := by decide +kernel
set_option maxRecDepth 65536 in
theorem own_slot : ∀ i : Fin 256, (about1.arrayAt? 1).bind (fun c => c.slots[i.val]?) = some (.ref (i.val + 2)) := by decide +kernel
set_option maxRecDepth 65536 in
theorem own_cell : ∀ i : Fin 256, (about1.heap[i.val + 2]?).map (fun c => (c.cls, c.slots.toList, c.vm.isStatics, decide (c.vm = .unknown))) = some (7, [.int (Int32.ofNat i.val - 128)], false, false) := by decide +kernel
set_option maxRecDepth 65536 in
theorem own_fc : about1.vm.findClass "java/lang/Integer" = some 7 := by decide +kernel
set_option maxRecDepth 65536 in
theorem own_fn : (about1.fieldNamed? "java/lang/Integer" "value" "I" false).map (fun z => (z.1, z.2.2)) = some (7, 0) := by decide +kernel
set_option maxRecDepth 65536 in
theorem own_as : about1.vm.assignable 7 7 = true := by decide +kernel
set_option maxRecDepth 65536 in
theorem own_kk : (about1.vm.classes[7]?).map (fun k => (match k.kind with | .ordinary => (1 : Nat) == k.instanceTypes.size | _ => true)) = some true := by decide +kernel
set_option maxHeartbeats 4000000 in
theorem own_all : (Jvm.Cond.all own_t (.and (.exactly (.elem own_t (.index 0)) "java/lang/Integer") (.eq (.field (.elem own_t (.index 0)) "java/lang/Integer" "value" "I") (.sub (.index 0) (.int 128))))).value args0 about1 none about1 [] = some true := by
  have hev : ∀ idx, own_t.eval args0 about1 none idx about1 = some (.ref 1) := fun _ => own_ev
  cases harr : about1.arrayAt? 1 with
  | none => have := own_arr1; rw [harr] at this; cases this
  | some arr =>
    have hsz : arr.slots.size = 256 := by have := own_arr1; rw [harr] at this; exact Option.some.inj this
    refine Cond.all_intro (hev []) harr fun i hi => ?_
    rw [hsz] at hi
    have hsl : arr.slots[i]? = some (.ref (i + 2)) := by have := own_slot ⟨i, hi⟩; rw [harr] at this; exact this
    have hcc := own_cell ⟨i, hi⟩
    cases hc : about1.heap[i + 2]? with
    | none => dsimp only at hcc; rw [hc] at hcc; cases hcc
    | some cell =>
      dsimp only at hcc
      rw [hc] at hcc
      have hq := Option.some.inj hcc
      simp only [Prod.mk.injEq, decide_eq_false_iff_not] at hq
      obtain ⟨q1, q2, q3, q4⟩ := hq
      have hsl2 : cell.slots = #[.int (Int32.ofNat i - 128)] := by rw [← q2]
      have hi31 : i < 2 ^ 31 := Nat.lt_trans hi (by decide)
      have hnn : ¬ (Int32.ofNat i) < 0 := by
        rw [Int32.lt_iff_toInt_lt, Int32.toInt_ofNat_of_lt hi31]
        simp
      have hcl : (Int32.ofNat i).toNatClampNeg = i := by simp [Int32.toNatClampNeg, Int32.toInt_ofNat_of_lt hi31]
      have hidx : (Jvm.Term.index 0).eval args0 about1 none [i] about1 = some (.int (Int32.ofNat i)) := by
        simp [Term.eval, hi31]
        try rfl
      have hel : (Jvm.Term.elem own_t (.index 0)).eval args0 about1 none [i] about1 = some (.ref (i + 2)) := by
        rw [elem_f (hev _) hidx harr hnn, hcl]; exact hsl
      have hfo : about1.fieldOf? (i + 2) "java/lang/Integer" "value" "I" = some (.int (Int32.ofNat i - 128)) := by
        have hf := own_fn
        cases hn : about1.fieldNamed? "java/lang/Integer" "value" "I" false with
        | none => rw [hn] at hf; cases hf
        | some z =>
          obtain ⟨z1, z2, z3⟩ := z
          rw [hn] at hf
          have hz := Option.some.inj hf
          simp only [Prod.mk.injEq] at hz
          obtain ⟨r1, r2⟩ := hz
          subst r1 r2
          simp [State.fieldOf?, hc, hn, q1, q3, q4, own_as, hsl2]
      have h1 : (Jvm.Cond.exactly (.elem own_t (.index 0)) "java/lang/Integer").value args0 about1 none about1 [i] = some true := by
        have hk := own_kk
        cases hkk : about1.vm.classes[7]? with
        | none => rw [hkk] at hk; cases hk
        | some k =>
          rw [hkk] at hk
          have hk' := Option.some.inj hk
          have hss : cell.slots.size = 1 := by rw [hsl2]; rfl
          simp only [Cond.value, hel, own_fc, hc, hkk]
          simp [q1, q3, hss]
          dsimp only at hk'
          cases hkd : k.kind <;> rw [hkd] at hk' <;> first | rfl | exact hk' | simpa using hk'
      have h2 : (Jvm.Cond.eq (.field (.elem own_t (.index 0)) "java/lang/Integer" "value" "I") (.sub (.index 0) (.int 128))).value args0 about1 none about1 [i] = some true := by
        have e2 : (Jvm.Term.sub (.index 0) (.int 128)).eval args0 about1 none [i] about1 = some (.int (Int32.ofNat i - 128)) := by
          simp only [Term.eval] at hidx ⊢
          simp [hidx]
        rw [Cond.eq_ints ((fld_at hel).trans hfo) e2]
        simp
      show (match (Jvm.Cond.exactly (.elem own_t (.index 0)) "java/lang/Integer").value args0 about1 none about1 [i] with | some true => _ | x => x) = some true
      rw [h1]
      exact h2
set_option maxRecDepth 65536 in
theorem w_rest : rest_1_c.before args0 about1 = true := by
  simp only [rest_1_c, Cond.before_and, Bool.and_eq_true]
  refine ⟨by decide +kernel, by decide +kernel, by decide +kernel, by decide +kernel, by decide +kernel, by decide +kernel, by decide +kernel, Cond.before_iff.mpr own_all, rfl⟩
end OwnRest
set_option maxRecDepth 65536 in
theorem w_case : (Jvm.Cond.and given_1 narrow_1).before args0 about1 = true := by decide +kernel
theorem w_applies : (headSpec (Jvm.Cond.code x code maxLocals ret :: tables_1) room_1).applies x e0.platform about1 = true :=
  (Spec.applies_iff w_frames).mpr ⟨w_running, w_runnable, w_alone, w_named, w_hears, w_ripe, w_room, w_tables⟩
theorem atStart : AtStart classFile x code maxLocals ret World_1 tables_1 room_1 Calls_1 rest_1 Pre_1 launch0 p0 e0 about1 theMethod args0 below0 :=
  ⟨lists_1, trivial, launch0.admits_env _ _ _, launch0.least_env, fairChoices_fair.cas, fairChoices_fair.clock, w_frames, w_args, w_heap, w_applies, trivial, w_rest, w_case⟩
end start1
theorem witness_1 : WitnessClaimed_1 := ⟨start1.p0, start1.e0, start1.about1, start1.theMethod, start1.args0, start1.below0, start1.atStart⟩
end Jvm.Pilot.@@N@@
