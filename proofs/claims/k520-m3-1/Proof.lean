import JvmDerived
import JvmDerived.Pilot.@@N@@Statement
import JvmDerived.Pilot.@@N@@Code
set_option linter.unusedVariables false
set_option linter.unusedSimpArgs false
namespace Jvm.RoadKit
open Sem ClassFile Op Lib Jvm.Stand Jvm.Free Jvm.LawKit
section New
variable {p : Program} {l : Launch} {e : Env} {R : Room} {s : State} {m : MethodId} {args : Array Value} {below : List Frame} {meth : Method} {c : Code} {T : State} {locs : List Loc} {cells slots : Nat}
theorem retI (X : Stand p l e R s m args below meth c T locs cells slots) (hx : p.tables.exec = Jvm.exec) {pc : Nat} {Ls : Array Slot} {z : Int32} {rest : List Value} (hret : meth.sig.returnType = some .int) (hd : decode c.code pc = .ok (.ireturn, 1)) {fs : List Frame}
    (hl : ∀ (f : JFrame) (acts : List Action), f.method = m → f.locked = none → f.entered = [] → (doReturn e (T.setTop f) acts (some (.int z))).1 = T.setFrames fs) : Steps p.tables e below (T.setTop (mkF m pc Ls (.int z :: rest))) (T.setFrames fs) := by
  have hm' : T.vm.method? m = some meth := X.method'
  have hn : narrow .int (.int z) = .int z := rfl
  show Steps p.tables e below (T.setTop { method := m, pc := pc, locals := Ls, stack := _ :: rest, locked := none }) _
  jvm_step X.here [X.here.top, hx, hd, hm', hret, hn]
  first | (intro acts; rw [hl _ acts rfl rfl rfl]) | rw [hl _ _ rfl rfl rfl]
  exact Steps.refl _
/-- from here the run ends as G says -/
def WP (tb : Tables) (e : Env) (below : List Frame) (G : State → Outcome → Prop) (T : State) (f : JFrame) : Prop := ∃ s₂ o, Steps tb e below (T.setTop f) s₂ ∧ G s₂ o
theorem WP.go {tb : Tables} {G : State → Outcome → Prop} {f : JFrame} (h : WP tb e below G T f) : ∃ s₂ o, Steps tb e below (T.setTop f) s₂ ∧ G s₂ o := h
theorem WP.fin {tb : Tables} {G : State → Outcome → Prop} {f : JFrame} (h : ∃ s₂ o, Steps tb e below (T.setTop f) s₂ ∧ G s₂ o) : WP tb e below G T f := h
theorem WP.cast {tb : Tables} {G : State → Outcome → Prop} {f f' : JFrame} (q : f = f') (h : WP tb e below G T f') : WP tb e below G T f := q ▸ h
theorem WP.st {tb : Tables} {G : State → Outcome → Prop} {T' : State} {f f' : JFrame} (k : ∀ t, Steps tb e below (T'.setTop f') t → Steps tb e below (T.setTop f) t) (h : WP tb e below G T' f') : WP tb e below G T f := by
  obtain ⟨s₂, o, h1, h2⟩ := h
  exact ⟨s₂, o, k _ h1, h2⟩
theorem WP.tr {tb : Tables} {G : State → Outcome → Prop} {T' : State} {f f' : JFrame} (k : Steps tb e below (T.setTop f) (T'.setTop f')) (h : WP tb e below G T' f') : WP tb e below G T f := by
  obtain ⟨s₂, o, h1, h2⟩ := h
  exact ⟨s₂, o, k.trans h1, h2⟩
theorem WP.name {tb : Tables} {G : State → Outcome → Prop} {f : JFrame} (h : ∀ G', G' = G → WP tb e below G' T f) : WP tb e below G T f := h G rfl
theorem ownWider (X : Stand p l e R s m args below meth c T locs cells slots) {c' s' : Nat} (h1 : cells ≤ c') (h2 : slots ≤ s') : Stand p l e R s m args below meth c T locs c' s' := { X with same := X.same.mono h1 h2 }
end New
theorem Arv.rd {Z : State} {h : Heap} {a : Addr} {k : ClassId} {ty : FieldType} {z j : Int32} {vs : List Value} {dv : Value} (F : Arv Z h a k ty z vs dv) (hj : ¬ j < 0 ∧ j < z) : ∃ c : Cell, Arr Z h a c ty ∧ ¬ (j < 0 ∨ c.slots.size ≤ j.toNatClampNeg) ∧ c.slots[j.toNatClampNeg]? = some (vs.getD j.toNatClampNeg dv) ∧ c.slots.size.toInt32 = z := by
  obtain ⟨c, A, -, S, q, H, -⟩ := F
  have hin := inb_of S hj
  exact ⟨c, A, hin, H.at hin rfl, len_of S q⟩
theorem Arv.len {Z : State} {h : Heap} {a : Addr} {k : ClassId} {ty : FieldType} {z : Int32} {vs : List Value} {dv : Value} (F : Arv Z h a k ty z vs dv) : ∃ c : Cell, Arr Z h a c ty ∧ c.slots.size.toInt32 = z := by
  obtain ⟨c, A, -, S, q, -, -⟩ := F
  exact ⟨c, A, len_of S q⟩
theorem ownFits {t : FieldType} {x : Int32} {y : Value} (h : narrow t (.int x) = y) (hf : fits t (narrow t (.int x)) = true) : fits t y = true := h ▸ hf
theorem nar01 {b : Int32} (h : b = 0 ∨ b = 1) : nar .boolean b = b := by rcases h with rfl | rfl <;> rfl
end Jvm.RoadKit
namespace Jvm.Pilot.@@N@@
open Jvm Jvm.ClassFile Sem Op Lib Jvm.Free Jvm.Stand Jvm.LawKit Jvm.RoadKit Bundle Jvm.Pilot.@@N@@.Jvm.D
theorem ef_1 (m : MethodId) (a1 : Addr) : entryFrame m #[(.ref a1)] 1 = mkF m 0 #[.val (.ref a1)] [] := by first | (simp [entryFrame, mkF, argsToLocals, Value.category]; done) | rfl
theorem pn_0 : plainName "com/example/skope/skope/xml/Intake" = true := by first | (simp [plainName, overriddenIn]; done) | decide +kernel
theorem d1_0 : decode prog_26_method_1_code 0 = .ok (.aload_n 0, 1) := by decide +kernel
theorem d1_1 : decode prog_26_method_1_code 1 = .ok (.invokespecial 1, 3) := by decide +kernel
theorem d1_4 : decode prog_26_method_1_code 4 = .ok (.aload_n 0, 1) := by decide +kernel
theorem d1_5 : decode prog_26_method_1_code 5 = .ok (.iconst 0, 1) := by decide +kernel
theorem d1_6 : decode prog_26_method_1_code 6 = .ok (.newarray .int, 2) := by decide +kernel
theorem d1_8 : decode prog_26_method_1_code 8 = .ok (.putfield 7, 3) := by decide +kernel
theorem d1_11 : decode prog_26_method_1_code 11 = .ok (.aload_n 0, 1) := by decide +kernel
theorem d1_12 : decode prog_26_method_1_code 12 = .ok (.iconst 1, 1) := by decide +kernel
theorem d1_13 : decode prog_26_method_1_code 13 = .ok (.putfield 13, 3) := by decide +kernel
theorem d1_16 : decode prog_26_method_1_code 16 = .ok (.return_, 1) := by decide +kernel
def Q1 (Z : State) (a1 : Addr) (u_longestValues : Value) (u_dropsNames : Int32) (u_nesting : Int32) (u_passedOnDeclarations : Int64) (u_passedOnChars : Int64) (u_documentTypeDeclaration : Int32) (u_bytes : Int64) (u_stretch : Int64) (u_started : Int32) (u_internalGeneralEntity : Int32) (u_internalParameterEntity : Int32) (u_attributeList : Int32) (u_declaringBytes : Int64) (h0 : Heap) (n0 : Nat) (v : Option Value) (h : Heap) (L : List Loc) : Prop := v = none ∧ Fr n0 L ∧ Keep h0 h [a1] ∧ Fld Z h a1 "com/example/skope/skope/xml/Intake" "dropsNames" "Z" (.int (1 : Int32)) ∧ Fld Z h a1 "com/example/skope/skope/xml/Intake" "nesting" "I" (.int u_nesting) ∧ Fld Z h a1 "com/example/skope/skope/xml/Intake" "passedOnDeclarations" "J" (.long u_passedOnDeclarations) ∧ Fld Z h a1 "com/example/skope/skope/xml/Intake" "passedOnChars" "J" (.long u_passedOnChars) ∧ Fld Z h a1 "com/example/skope/skope/xml/Intake" "documentTypeDeclaration" "Z" (.int u_documentTypeDeclaration) ∧ Fld Z h a1 "com/example/skope/skope/xml/Intake" "bytes" "J" (.long u_bytes) ∧ Fld Z h a1 "com/example/skope/skope/xml/Intake" "stretch" "J" (.long u_stretch) ∧ Fld Z h a1 "com/example/skope/skope/xml/Intake" "started" "Z" (.int u_started) ∧ Fld Z h a1 "com/example/skope/skope/xml/Intake" "internalGeneralEntity" "Z" (.int u_internalGeneralEntity) ∧ Fld Z h a1 "com/example/skope/skope/xml/Intake" "internalParameterEntity" "Z" (.int u_internalParameterEntity) ∧ Fld Z h a1 "com/example/skope/skope/xml/Intake" "attributeList" "Z" (.int u_attributeList) ∧ Fld Z h a1 "com/example/skope/skope/xml/Intake" "declaringBytes" "J" (.long u_declaringBytes)
set_option maxRecDepth 65536 in
set_option maxHeartbeats 40000000 in
theorem rm1 (l : Launch) (Z : State) (a0 : Array Value) (hw : ∀ d ∈ tables_1, d.before a0 Z = true) (ws : List Jvm.Cond) (a1 : Addr) (u_longestValues : Value) (u_dropsNames : Int32) (u_nesting : Int32) (u_passedOnDeclarations : Int64) (u_passedOnChars : Int64) (u_documentTypeDeclaration : Int32) (u_bytes : Int64) (u_stretch : Int64) (u_started : Int32) (u_internalGeneralEntity : Int32) (u_internalParameterEntity : Int32) (u_attributeList : Int32) (u_declaringBytes : Int64) (h0 : Heap) (n0 : Nat) (Z0 : n0 ≤ h0.size) (E_a1 : Exa Z h0 a1 "com/example/skope/skope/xml/Intake") (g_a1 : n0 ≤ a1) (F_a1_longestValues : Fld Z h0 a1 "com/example/skope/skope/xml/Intake" "longestValues" "[I" u_longestValues) (F_a1_dropsNames : Fld Z h0 a1 "com/example/skope/skope/xml/Intake" "dropsNames" "Z" (.int u_dropsNames)) (F_a1_nesting : Fld Z h0 a1 "com/example/skope/skope/xml/Intake" "nesting" "I" (.int u_nesting)) (F_a1_passedOnDeclarations : Fld Z h0 a1 "com/example/skope/skope/xml/Intake" "passedOnDeclarations" "J" (.long u_passedOnDeclarations)) (F_a1_passedOnChars : Fld Z h0 a1 "com/example/skope/skope/xml/Intake" "passedOnChars" "J" (.long u_passedOnChars)) (F_a1_documentTypeDeclaration : Fld Z h0 a1 "com/example/skope/skope/xml/Intake" "documentTypeDeclaration" "Z" (.int u_documentTypeDeclaration)) (F_a1_bytes : Fld Z h0 a1 "com/example/skope/skope/xml/Intake" "bytes" "J" (.long u_bytes)) (F_a1_stretch : Fld Z h0 a1 "com/example/skope/skope/xml/Intake" "stretch" "J" (.long u_stretch)) (F_a1_started : Fld Z h0 a1 "com/example/skope/skope/xml/Intake" "started" "Z" (.int u_started)) (F_a1_internalGeneralEntity : Fld Z h0 a1 "com/example/skope/skope/xml/Intake" "internalGeneralEntity" "Z" (.int u_internalGeneralEntity)) (F_a1_internalParameterEntity : Fld Z h0 a1 "com/example/skope/skope/xml/Intake" "internalParameterEntity" "Z" (.int u_internalParameterEntity)) (F_a1_attributeList : Fld Z h0 a1 "com/example/skope/skope/xml/Intake" "attributeList" "Z" (.int u_attributeList)) (F_a1_declaringBytes : Fld Z h0 a1 "com/example/skope/skope/xml/Intake" "declaringBytes" "J" (.long u_declaringBytes)) :
    MetFree l (⟨"com/example/skope/skope/xml/Intake", "<init>", "()V"⟩ : MethodName) (head1 (Jvm.Cond.code (⟨"com/example/skope/skope/xml/Intake", "<init>", "()V"⟩ : MethodName) prog_26_method_1_code 1 none :: ws) ({ frames := 1, cells := 1, slots := 0, locals := 12 } : Room)) (fun a U => a = #[(.ref a1)] ∧ Z.Warmed39 U.vm ∧ U.heap = h0) (fun _ _ _ _ _ => True) (fun _ U o U' => ∃ v L, o = .returned v ∧ Q1 Z a1 u_longestValues u_dropsNames u_nesting u_passedOnDeclarations u_passedOnChars u_documentTypeDeclaration u_bytes u_stretch u_started u_internalGeneralEntity u_internalParameterEntity u_attributeList u_declaringBytes h0 n0 v U'.heap L ∧ FrameEnd U o U' L ({ frames := 1, cells := 1, slots := 0, locals := 12 } : Room).cells ({ frames := 1, cells := 1, slots := 0, locals := 12 } : Room).slots) := by
  refine MetFree.of_bodySF (plainFor_of_name pn_0) hisR ?_
  intro p e s m args below meth c s₁ Bd hml0 hP hK
  obtain ⟨rfl, hZ, hh⟩ := hP
  have hx := Bd.exec
  have hby := Bd.bytes
  have hml : c.maxLocals = 1 := hml0
  have hown : s.vm.findClass "com/example/skope/skope/xml/Intake" = some m.cls := findClass_of_methodNamed Bd.named
  have hnm := (name_of_methodNamed Bd.named Bd.method).1
  have X0 : Stand p l e ({ frames := 1, cells := 1, slots := 0, locals := 12 } : Room) s m #[(.ref a1)] below meth c s₁ [] 0 0 := Stand.of_body Bd
  have e0 : s₁.heap = h0 := by rw [← hh, Bd.state]; rfl
  have NF := Fr.nil n0
  have KP : Keep h0 h0 [a1] := Keep.refl h0 _
  refine WP.go ?_
  refine WP.cast (ef_1 m a1) ?_
  refine WP.name ?_
  intro G hG
  have bk1 : ∀ t, Steps p.tables e below (s₁.setTop (mkF m 1 #[.val (.ref a1)] [(.ref a1)])) t → Steps p.tables e below (s₁.setTop (mkF m 0 #[.val (.ref a1)] [])) t := fun t k => by
    refine XS.aloadN X0.here hx rfl (hb hby d1_0) rfl rfl ?_
    exact k
  refine WP.st bk1 ?_
  clear bk1
  obtain ⟨T2, X2, e2, st2⟩ := initO X0 hx hZ hown (hw _ (List.mem_of_getElem? (i := 6) rfl)) (hw _ (List.mem_of_getElem? (i := 7) rfl)) (hw _ (List.mem_of_getElem? (i := 8) rfl)) e0 (g := (mkF m 1 #[.val (.ref a1)] [(.ref a1)])) rfl (by rw [hml]; rfl) rfl (hb hby d1_1) (by decide) (W := 0) (by show 2 * 0 + _ ≤ _; exact Nat.le_of_eq rfl) (by decide)
  refine WP.st st2 ?_
  clear st2
  show WP p.tables e below _ T2 (mkF m 4 #[.val (.ref a1)] [])
  have bk3 : ∀ t, Steps p.tables e below (T2.setTop (mkF m 6 #[.val (.ref a1)] [(.int (0 : Int32)), (.ref a1)])) t → Steps p.tables e below (T2.setTop (mkF m 4 #[.val (.ref a1)] [])) t := fun t k => by
    refine XS.aloadN X2.here hx rfl (hb hby d1_4) rfl rfl ?_
    show Steps p.tables e below (T2.setTop (mkF m 5 #[.val (.ref a1)] [(.ref a1)])) t
    refine XS.iconst X2.here hx rfl (hb hby d1_5) ?_
    exact k
  refine WP.st bk3 ?_
  clear bk3
  obtain ⟨T4, h4, k4, X4, e4, E4, A4, st4⟩ := newP X2 hx hZ (hw _ (List.mem_of_getElem? (i := 9) rfl)) e2 (g := (mkF m 6 #[.val (.ref a1)] [(.int (0 : Int32)), (.ref a1)])) rfl (hb hby d1_6) rfl (by decide) (cap := 0) (by decide) (by decide) (by decide) (by decide)
  obtain ⟨b4, g4⟩ : ∃ z, z = h0.size := ⟨_, rfl⟩
  rw [← g4] at A4 st4
  refine WP.st st4 ?_
  clear st4
  have ne_a1_b4 : a1 ≠ b4 := Nat.ne_of_lt (Nat.lt_of_lt_of_le E_a1.lt (Nat.le_of_eq g4.symm))
  have g_b4 : n0 ≤ b4 := Nat.le_trans Z0 (Nat.le_of_eq g4.symm)
  have sz_b4 : h0.size ≤ b4 := Nat.le_trans KP.1 (Nat.le_of_eq g4.symm)
  replace E_a1 := E_a1.ext E4
  replace F_a1_longestValues := F_a1_longestValues.ext E4
  replace F_a1_dropsNames := F_a1_dropsNames.ext E4
  replace F_a1_nesting := F_a1_nesting.ext E4
  replace F_a1_passedOnDeclarations := F_a1_passedOnDeclarations.ext E4
  replace F_a1_passedOnChars := F_a1_passedOnChars.ext E4
  replace F_a1_documentTypeDeclaration := F_a1_documentTypeDeclaration.ext E4
  replace F_a1_bytes := F_a1_bytes.ext E4
  replace F_a1_stretch := F_a1_stretch.ext E4
  replace F_a1_started := F_a1_started.ext E4
  replace F_a1_internalGeneralEntity := F_a1_internalGeneralEntity.ext E4
  replace F_a1_internalParameterEntity := F_a1_internalParameterEntity.ext E4
  replace F_a1_attributeList := F_a1_attributeList.ext E4
  replace F_a1_declaringBytes := F_a1_declaringBytes.ext E4
  replace Z0 := Nat.le_trans Z0 E4.1
  replace KP := KP.ext E4
  have V_b4 : Arv Z h4 b4 k4 .int (0 : Int32) [] (.int (0 : Int32)) := (Arv.new A4 (by decide)).pad (pad_rep [] (.int (0 : Int32)) 0)
  show WP p.tables e below _ T4 (mkF m 8 #[.val (.ref a1)] [(.ref b4), (.ref a1)])
  obtain ⟨T5, h5, X5, e5, W5, st5⟩ := putF X4 hx hZ hown (host := "") (Or.inl (hw _ (List.mem_of_getElem? (i := 10) rfl))) Via.refl e4 F_a1_longestValues E_a1 (Or.inl (hw _ (List.mem_of_getElem? (i := 11) rfl))) (hw _ (List.mem_of_getElem? (i := 1) rfl)) (ty := (.array .int)) (by decide) rfl rfl (g := (mkF m 8 #[.val (.ref a1)] [(.ref b4), (.ref a1)])) rfl rfl (hb hby d1_8)
  refine WP.st st5 ?_
  clear st5
  replace E_a1 := E_a1.wr W5
  replace F_a1_longestValues := F_a1_longestValues.same W5
  replace F_a1_dropsNames := F_a1_dropsNames.other W5 (Or.inr (slot_ne (Or.inl (hw _ (List.mem_of_getElem? (i := 13) rfl))) (Or.inl (hw _ (List.mem_of_getElem? (i := 11) rfl))) (by decide) (t := .boolean) (t' := (.array .int)) (by decide) (by decide)))
  replace F_a1_nesting := F_a1_nesting.other W5 (Or.inr (slot_ne (Or.inl (hw _ (List.mem_of_getElem? (i := 25) rfl))) (Or.inl (hw _ (List.mem_of_getElem? (i := 11) rfl))) (by decide) (t := .int) (t' := (.array .int)) (by decide) (by decide)))
  replace F_a1_passedOnDeclarations := F_a1_passedOnDeclarations.other W5 (Or.inr (slot_ne (Or.inl (hw _ (List.mem_of_getElem? (i := 36) rfl))) (Or.inl (hw _ (List.mem_of_getElem? (i := 11) rfl))) (by decide) (t := .long) (t' := (.array .int)) (by decide) (by decide)))
  replace F_a1_passedOnChars := F_a1_passedOnChars.other W5 (Or.inr (slot_ne (Or.inl (hw _ (List.mem_of_getElem? (i := 38) rfl))) (Or.inl (hw _ (List.mem_of_getElem? (i := 11) rfl))) (by decide) (t := .long) (t' := (.array .int)) (by decide) (by decide)))
  replace F_a1_documentTypeDeclaration := F_a1_documentTypeDeclaration.other W5 (Or.inr (slot_ne (Or.inl (hw _ (List.mem_of_getElem? (i := 50) rfl))) (Or.inl (hw _ (List.mem_of_getElem? (i := 11) rfl))) (by decide) (t := .boolean) (t' := (.array .int)) (by decide) (by decide)))
  replace F_a1_bytes := F_a1_bytes.other W5 (Or.inr (slot_ne (Or.inl (hw _ (List.mem_of_getElem? (i := 52) rfl))) (Or.inl (hw _ (List.mem_of_getElem? (i := 11) rfl))) (by decide) (t := .long) (t' := (.array .int)) (by decide) (by decide)))
  replace F_a1_stretch := F_a1_stretch.other W5 (Or.inr (slot_ne (Or.inl (hw _ (List.mem_of_getElem? (i := 54) rfl))) (Or.inl (hw _ (List.mem_of_getElem? (i := 11) rfl))) (by decide) (t := .long) (t' := (.array .int)) (by decide) (by decide)))
  replace F_a1_started := F_a1_started.other W5 (Or.inr (slot_ne (Or.inl (hw _ (List.mem_of_getElem? (i := 56) rfl))) (Or.inl (hw _ (List.mem_of_getElem? (i := 11) rfl))) (by decide) (t := .boolean) (t' := (.array .int)) (by decide) (by decide)))
  replace F_a1_internalGeneralEntity := F_a1_internalGeneralEntity.other W5 (Or.inr (slot_ne (Or.inl (hw _ (List.mem_of_getElem? (i := 58) rfl))) (Or.inl (hw _ (List.mem_of_getElem? (i := 11) rfl))) (by decide) (t := .boolean) (t' := (.array .int)) (by decide) (by decide)))
  replace F_a1_internalParameterEntity := F_a1_internalParameterEntity.other W5 (Or.inr (slot_ne (Or.inl (hw _ (List.mem_of_getElem? (i := 60) rfl))) (Or.inl (hw _ (List.mem_of_getElem? (i := 11) rfl))) (by decide) (t := .boolean) (t' := (.array .int)) (by decide) (by decide)))
  replace F_a1_attributeList := F_a1_attributeList.other W5 (Or.inr (slot_ne (Or.inl (hw _ (List.mem_of_getElem? (i := 62) rfl))) (Or.inl (hw _ (List.mem_of_getElem? (i := 11) rfl))) (by decide) (t := .boolean) (t' := (.array .int)) (by decide) (by decide)))
  replace F_a1_declaringBytes := F_a1_declaringBytes.other W5 (Or.inr (slot_ne (Or.inl (hw _ (List.mem_of_getElem? (i := 69) rfl))) (Or.inl (hw _ (List.mem_of_getElem? (i := 11) rfl))) (by decide) (t := .long) (t' := (.array .int)) (by decide) (by decide)))
  replace V_b4 := V_b4.other W5 (Ne.symm ne_a1_b4)
  replace Z0 := Nat.le_trans Z0 (Keep.of_wr W5).1
  replace KP := KP.wr W5 (Or.inl (List.mem_of_getElem? (i := 0) rfl))
  replace NF := Fr.snoc X5 NF g_a1
  clear W5
  show WP p.tables e below _ T5 (mkF m 11 #[.val (.ref a1)] [])
  have bk6 : ∀ t, Steps p.tables e below (T5.setTop (mkF m 13 #[.val (.ref a1)] [(.int (1 : Int32)), (.ref a1)])) t → Steps p.tables e below (T5.setTop (mkF m 11 #[.val (.ref a1)] [])) t := fun t k => by
    refine XS.aloadN X5.here hx rfl (hb hby d1_11) rfl rfl ?_
    show Steps p.tables e below (T5.setTop (mkF m 12 #[.val (.ref a1)] [(.ref a1)])) t
    refine XS.iconst X5.here hx rfl (hb hby d1_12) ?_
    exact k
  refine WP.st bk6 ?_
  clear bk6
  obtain ⟨T7, h7, X7, e7, W7, st7⟩ := putFN X5 hx hZ hown (hw _ (List.mem_of_getElem? (i := 12) rfl)) Via.refl e5 F_a1_dropsNames E_a1 (Or.inl (hw _ (List.mem_of_getElem? (i := 13) rfl))) (hw _ (List.mem_of_getElem? (i := 1) rfl)) (ty := .boolean) (v := (.int (1 : Int32))) (v' := (.int (1 : Int32))) (by decide) rfl (by decide) (g := (mkF m 13 #[.val (.ref a1)] [(.int (1 : Int32)), (.ref a1)])) rfl rfl (hb hby d1_13)
  refine WP.st st7 ?_
  clear st7
  replace E_a1 := E_a1.wr W7
  replace F_a1_longestValues := F_a1_longestValues.other W7 (Or.inr (slot_ne (Or.inl (hw _ (List.mem_of_getElem? (i := 11) rfl))) (Or.inl (hw _ (List.mem_of_getElem? (i := 13) rfl))) (by decide) (t := (.array .int)) (t' := .boolean) (by decide) (by decide)))
  replace F_a1_dropsNames := F_a1_dropsNames.same W7
  replace F_a1_nesting := F_a1_nesting.other W7 (Or.inr (slot_ne (Or.inl (hw _ (List.mem_of_getElem? (i := 25) rfl))) (Or.inl (hw _ (List.mem_of_getElem? (i := 13) rfl))) (by decide) (t := .int) (t' := .boolean) (by decide) (by decide)))
  replace F_a1_passedOnDeclarations := F_a1_passedOnDeclarations.other W7 (Or.inr (slot_ne (Or.inl (hw _ (List.mem_of_getElem? (i := 36) rfl))) (Or.inl (hw _ (List.mem_of_getElem? (i := 13) rfl))) (by decide) (t := .long) (t' := .boolean) (by decide) (by decide)))
  replace F_a1_passedOnChars := F_a1_passedOnChars.other W7 (Or.inr (slot_ne (Or.inl (hw _ (List.mem_of_getElem? (i := 38) rfl))) (Or.inl (hw _ (List.mem_of_getElem? (i := 13) rfl))) (by decide) (t := .long) (t' := .boolean) (by decide) (by decide)))
  replace F_a1_documentTypeDeclaration := F_a1_documentTypeDeclaration.other W7 (Or.inr (slot_ne (Or.inl (hw _ (List.mem_of_getElem? (i := 50) rfl))) (Or.inl (hw _ (List.mem_of_getElem? (i := 13) rfl))) (by decide) (t := .boolean) (t' := .boolean) (by decide) (by decide)))
  replace F_a1_bytes := F_a1_bytes.other W7 (Or.inr (slot_ne (Or.inl (hw _ (List.mem_of_getElem? (i := 52) rfl))) (Or.inl (hw _ (List.mem_of_getElem? (i := 13) rfl))) (by decide) (t := .long) (t' := .boolean) (by decide) (by decide)))
  replace F_a1_stretch := F_a1_stretch.other W7 (Or.inr (slot_ne (Or.inl (hw _ (List.mem_of_getElem? (i := 54) rfl))) (Or.inl (hw _ (List.mem_of_getElem? (i := 13) rfl))) (by decide) (t := .long) (t' := .boolean) (by decide) (by decide)))
  replace F_a1_started := F_a1_started.other W7 (Or.inr (slot_ne (Or.inl (hw _ (List.mem_of_getElem? (i := 56) rfl))) (Or.inl (hw _ (List.mem_of_getElem? (i := 13) rfl))) (by decide) (t := .boolean) (t' := .boolean) (by decide) (by decide)))
  replace F_a1_internalGeneralEntity := F_a1_internalGeneralEntity.other W7 (Or.inr (slot_ne (Or.inl (hw _ (List.mem_of_getElem? (i := 58) rfl))) (Or.inl (hw _ (List.mem_of_getElem? (i := 13) rfl))) (by decide) (t := .boolean) (t' := .boolean) (by decide) (by decide)))
  replace F_a1_internalParameterEntity := F_a1_internalParameterEntity.other W7 (Or.inr (slot_ne (Or.inl (hw _ (List.mem_of_getElem? (i := 60) rfl))) (Or.inl (hw _ (List.mem_of_getElem? (i := 13) rfl))) (by decide) (t := .boolean) (t' := .boolean) (by decide) (by decide)))
  replace F_a1_attributeList := F_a1_attributeList.other W7 (Or.inr (slot_ne (Or.inl (hw _ (List.mem_of_getElem? (i := 62) rfl))) (Or.inl (hw _ (List.mem_of_getElem? (i := 13) rfl))) (by decide) (t := .boolean) (t' := .boolean) (by decide) (by decide)))
  replace F_a1_declaringBytes := F_a1_declaringBytes.other W7 (Or.inr (slot_ne (Or.inl (hw _ (List.mem_of_getElem? (i := 69) rfl))) (Or.inl (hw _ (List.mem_of_getElem? (i := 13) rfl))) (by decide) (t := .long) (t' := .boolean) (by decide) (by decide)))
  replace V_b4 := V_b4.other W7 (Ne.symm ne_a1_b4)
  replace Z0 := Nat.le_trans Z0 (Keep.of_wr W7).1
  replace KP := KP.wr W7 (Or.inl (List.mem_of_getElem? (i := 0) rfl))
  replace NF := Fr.snoc X7 NF g_a1
  clear W7
  show WP p.tables e below _ T7 (mkF m 16 #[.val (.ref a1)] [])
  subst hG
  obtain ⟨fs, hr, hrun, hended, hW, hsame⟩ := X7.leave (v := none) (fun _ => rfl)
  refine WP.fin ⟨_, _, ?_, hrun, hended, _, _, rfl, ?_, ⟨_, rfl⟩, hW, hsame.mono (by decide) (by decide)⟩
  · exact X7.returnOut hx Bd.returns (hb hby d1_16) hr
  · show Q1 Z a1 u_longestValues u_dropsNames u_nesting u_passedOnDeclarations u_passedOnChars u_documentTypeDeclaration u_bytes u_stretch u_started u_internalGeneralEntity u_internalParameterEntity u_attributeList u_declaringBytes h0 n0 _ T7.heap _
    rw [e7]
    exact ⟨rfl, NF, KP, F_a1_dropsNames, F_a1_nesting, F_a1_passedOnDeclarations, F_a1_passedOnChars, F_a1_documentTypeDeclaration, F_a1_bytes, F_a1_stretch, F_a1_started, F_a1_internalGeneralEntity, F_a1_internalParameterEntity, F_a1_attributeList, F_a1_declaringBytes⟩
theorem ef_3 (m : MethodId) (a1 : Addr) : entryFrame m #[(.ref a1)] 1 = mkF m 0 #[.val (.ref a1)] [] := by first | (simp [entryFrame, mkF, argsToLocals, Value.category]; done) | rfl
theorem d3_0 : decode prog_26_method_20_code 0 = .ok (.aload_n 0, 1) := by decide +kernel
theorem d3_1 : decode prog_26_method_20_code 1 = .ok (.getfield 13, 3) := by decide +kernel
theorem d3_4 : decode prog_26_method_20_code 4 = .ok (.ireturn, 1) := by decide +kernel
def Q3 (Z : State) (a1 : Addr) (w1 : Int32) (h0 : Heap) (n0 : Nat) (v : Option Value) (h : Heap) (L : List Loc) : Prop := v = some (.int (nar .boolean w1)) ∧ Fr n0 L ∧ h = h0
set_option maxRecDepth 65536 in
set_option maxHeartbeats 40000000 in
theorem rm3 (l : Launch) (Z : State) (a0 : Array Value) (hw : ∀ d ∈ tables_1, d.before a0 Z = true) (ws : List Jvm.Cond) (a1 : Addr) (w1 : Int32) (h0 : Heap) (n0 : Nat) (Z0 : n0 ≤ h0.size) (F_a1_dropsNames : Fld Z h0 a1 "com/example/skope/skope/xml/Intake" "dropsNames" "Z" (.int w1)) :
    MetFree l (⟨"com/example/skope/skope/xml/Intake", "dropsNames", "()Z"⟩ : MethodName) (head1 (Jvm.Cond.code (⟨"com/example/skope/skope/xml/Intake", "dropsNames", "()Z"⟩ : MethodName) prog_26_method_20_code 1 (some .boolean) :: ws) ({ frames := 0, cells := 0, slots := 0, locals := 0 } : Room)) (fun a U => a = #[(.ref a1)] ∧ Z.Warmed39 U.vm ∧ U.heap = h0) (fun _ _ _ _ _ => True) (fun _ U o U' => ∃ v L, o = .returned v ∧ Q3 Z a1 w1 h0 n0 v U'.heap L ∧ FrameEnd U o U' L ({ frames := 0, cells := 0, slots := 0, locals := 0 } : Room).cells ({ frames := 0, cells := 0, slots := 0, locals := 0 } : Room).slots) := by
  refine MetFree.of_bodySF (plainFor_of_name pn_0) hisR ?_
  intro p e s m args below meth c s₁ Bd hml0 hP hK
  obtain ⟨rfl, hZ, hh⟩ := hP
  have hx := Bd.exec
  have hby := Bd.bytes
  have hml : c.maxLocals = 1 := hml0
  have hown : s.vm.findClass "com/example/skope/skope/xml/Intake" = some m.cls := findClass_of_methodNamed Bd.named
  have hnm := (name_of_methodNamed Bd.named Bd.method).1
  have X0 : Stand p l e ({ frames := 0, cells := 0, slots := 0, locals := 0 } : Room) s m #[(.ref a1)] below meth c s₁ [] 0 0 := Stand.of_body Bd
  have e0 : s₁.heap = h0 := by rw [← hh, Bd.state]; rfl
  have NF := Fr.nil n0
  refine WP.go ?_
  refine WP.cast (ef_3 m a1) ?_
  refine WP.name ?_
  intro G hG
  have bk8 : ∀ t, Steps p.tables e below (s₁.setTop (mkF m 1 #[.val (.ref a1)] [(.ref a1)])) t → Steps p.tables e below (s₁.setTop (mkF m 0 #[.val (.ref a1)] [])) t := fun t k => by
    refine XS.aloadN X0.here hx rfl (hb hby d3_0) rfl rfl ?_
    exact k
  refine WP.st bk8 ?_
  clear bk8
  obtain ⟨T9, X9, e9, st9⟩ := getF X0 hx hZ hown (host := "") (Or.inl (hw _ (List.mem_of_getElem? (i := 12) rfl))) Via.refl e0 F_a1_dropsNames (g := (mkF m 1 #[.val (.ref a1)] [(.ref a1)])) rfl rfl (hb hby d3_1)
  refine WP.st st9 ?_
  clear st9
  show WP p.tables e below _ T9 (mkF m 4 #[.val (.ref a1)] [(.int w1)])
  subst hG
  obtain ⟨fs, hr, hrun, hended, hW, hsame⟩ := X9.leave (v := some (.int (nar .boolean w1))) (fun h => by rw [Bd.returns] at h; cases h)
  refine WP.fin ⟨_, _, ?_, hrun, hended, _, _, rfl, ?_, ⟨_, rfl⟩, hW, hsame.mono (by decide) (by decide)⟩
  · exact retN X9 hx (t := .boolean) Bd.returns (by simp) (hb hby d3_4) hr
  · show Q3 Z a1 w1 h0 n0 _ T9.heap _
    rw [e9]
    exact ⟨rfl, NF, rfl⟩
def own_max (x y : Int32) : Int32 := if x < y then y else x
theorem ef_5 (m : MethodId) (p1 : Int32) (p2 : Int32) : entryFrame m #[(.int p1), (.int p2)] 2 = mkF m 0 #[.val (.int p1), .val (.int p2)] [] := by first | (simp [entryFrame, mkF, argsToLocals, Value.category]; done) | rfl
theorem d5_0 : decode jdk_29_method_65_code 0 = .ok (.iload_n 0, 1) := by decide +kernel
theorem d5_1 : decode jdk_29_method_65_code 1 = .ok (.iload_n 1, 1) := by decide +kernel
theorem d5_2 : decode jdk_29_method_65_code 2 = .ok (.if_icmp .lt 7, 3) := by decide +kernel
theorem d5_9 : decode jdk_29_method_65_code 9 = .ok (.iload_n 1, 1) := by decide +kernel
theorem d5_10 : decode jdk_29_method_65_code 10 = .ok (.ireturn, 1) := by decide +kernel
theorem d5_5 : decode jdk_29_method_65_code 5 = .ok (.iload_n 0, 1) := by decide +kernel
theorem d5_6 : decode jdk_29_method_65_code 6 = .ok (.goto 4, 3) := by decide +kernel
def Q5 (Z : State) (p1 : Int32) (p2 : Int32) (h0 : Heap) (n0 : Nat) (v : Option Value) (h : Heap) (L : List Loc) : Prop := v = some (.int (own_max p1 p2)) ∧ Fr n0 L ∧ h = h0
set_option maxRecDepth 65536 in
set_option maxHeartbeats 40000000 in
theorem rm5 (l : Launch) (Z : State) (a0 : Array Value) (hw : ∀ d ∈ tables_1, d.before a0 Z = true) (ws : List Jvm.Cond) (p1 : Int32) (p2 : Int32) (h0 : Heap) (n0 : Nat) (Z0 : n0 ≤ h0.size)  :
    MetFree l (⟨"java/lang/Math", "max", "(II)I"⟩ : MethodName) (head1 (Jvm.Cond.code (⟨"java/lang/Math", "max", "(II)I"⟩ : MethodName) jdk_29_method_65_code 2 (some .int) :: ws) ({ frames := 0, cells := 0, slots := 0, locals := 0 } : Room)) (fun a U => a = #[(.int p1), (.int p2)] ∧ Z.Warmed39 U.vm ∧ U.heap = h0) (fun _ _ _ _ _ => True) (fun _ U o U' => ∃ v L, o = .returned v ∧ Q5 Z p1 p2 h0 n0 v U'.heap L ∧ FrameEnd U o U' L ({ frames := 0, cells := 0, slots := 0, locals := 0 } : Room).cells ({ frames := 0, cells := 0, slots := 0, locals := 0 } : Room).slots) := by
  refine MetFree.of_bodySF (Jvm.Free.JP.mathPlain rfl (by decide +kernel)) hisR ?_
  intro p e s m args below meth c s₁ Bd hml0 hP hK
  obtain ⟨rfl, hZ, hh⟩ := hP
  have hx := Bd.exec
  have hby := Bd.bytes
  have hml : c.maxLocals = 2 := hml0
  have hown : s.vm.findClass "java/lang/Math" = some m.cls := findClass_of_methodNamed Bd.named
  have hnm := (name_of_methodNamed Bd.named Bd.method).1
  have X0 : Stand p l e ({ frames := 0, cells := 0, slots := 0, locals := 0 } : Room) s m #[(.int p1), (.int p2)] below meth c s₁ [] 0 0 := Stand.of_body Bd
  have e0 : s₁.heap = h0 := by rw [← hh, Bd.state]; rfl
  have NF := Fr.nil n0
  refine WP.go ?_
  refine WP.cast (ef_5 m p1 p2) ?_
  refine WP.name ?_
  intro G hG
  have bk11 : ∀ t, Steps p.tables e below (s₁.setTop (mkF m 2 #[.val (.int p1), .val (.int p2)] [(.int p2), (.int p1)])) t → Steps p.tables e below (s₁.setTop (mkF m 0 #[.val (.int p1), .val (.int p2)] [])) t := fun t k => by
    refine XS.iloadN X0.here hx rfl (hb hby d5_0) rfl ?_
    show Steps p.tables e below (s₁.setTop (mkF m 1 #[.val (.int p1), .val (.int p2)] [(.int p1)])) t
    refine XS.iloadN X0.here hx rfl (hb hby d5_1) rfl ?_
    exact k
  refine WP.st bk11 ?_
  clear bk11
  by_cases hc10 : p1 < p2
  · skip
    have bk12 : ∀ t, Steps p.tables e below (s₁.setTop (mkF m 10 #[.val (.int p1), .val (.int p2)] [(.int p2)])) t → Steps p.tables e below (s₁.setTop (mkF m 2 #[.val (.int p1), .val (.int p2)] [(.int p2), (.int p1)])) t := fun t k => by
      refine XS.icmpYes X0.here hx rfl (pc0 := 2) (pc' := 9) rfl (hb hby d5_2) rfl (tlt hc10).1 (by decide) (by decide) ?_
      show Steps p.tables e below (s₁.setTop (mkF m 9 #[.val (.int p1), .val (.int p2)] [])) t
      refine XS.iloadN X0.here hx rfl (hb hby d5_9) rfl ?_
      exact k
    refine WP.st bk12 ?_
    clear bk12
    subst hG
    obtain ⟨fs, hr, hrun, hended, hW, hsame⟩ := X0.leave (v := some (.int p2)) (fun h => by rw [Bd.returns] at h; cases h)
    refine WP.fin ⟨_, _, ?_, hrun, hended, _, _, rfl, ?_, ⟨_, rfl⟩, hW, hsame.mono (by decide) (by decide)⟩
    · exact retI X0 hx Bd.returns (hb hby d5_10) hr
    · show Q5 Z p1 p2 h0 n0 _ s₁.heap _
      rw [e0]
      exact ⟨(by simp [own_max, hc10]), NF, rfl⟩
  · skip
    have bk13 : ∀ t, Steps p.tables e below (s₁.setTop (mkF m 10 #[.val (.int p1), .val (.int p2)] [(.int p1)])) t → Steps p.tables e below (s₁.setTop (mkF m 2 #[.val (.int p1), .val (.int p2)] [(.int p2), (.int p1)])) t := fun t k => by
      refine XS.icmpNo X0.here hx rfl (hb hby d5_2) rfl (flt hc10).1 ?_
      show Steps p.tables e below (s₁.setTop (mkF m 5 #[.val (.int p1), .val (.int p2)] [])) t
      refine XS.iloadN X0.here hx rfl (hb hby d5_5) rfl ?_
      show Steps p.tables e below (s₁.setTop (mkF m 6 #[.val (.int p1), .val (.int p2)] [(.int p1)])) t
      refine XS.goto X0.here hx rfl (pc0 := 6) (pc' := 10) rfl (hb hby d5_6) (by decide) (by decide) ?_
      exact k
    refine WP.st bk13 ?_
    clear bk13
    subst hG
    obtain ⟨fs, hr, hrun, hended, hW, hsame⟩ := X0.leave (v := some (.int p1)) (fun h => by rw [Bd.returns] at h; cases h)
    refine WP.fin ⟨_, _, ?_, hrun, hended, _, _, rfl, ?_, ⟨_, rfl⟩, hW, hsame.mono (by decide) (by decide)⟩
    · exact retI X0 hx Bd.returns (hb hby d5_10) hr
    · show Q5 Z p1 p2 h0 n0 _ s₁.heap _
      rw [e0]
      exact ⟨(by simp [own_max, hc10]), NF, rfl⟩
theorem ef_4 (m : MethodId) (a1 : Addr) (p1 : Int32) : entryFrame m #[(.ref a1), (.int p1)] 2 = mkF m 0 #[.val (.ref a1), .val (.int p1)] [] := by first | (simp [entryFrame, mkF, argsToLocals, Value.category]; done) | rfl
theorem d4_0 : decode prog_26_method_9_code 0 = .ok (.aload_n 0, 1) := by decide +kernel
theorem d4_1 : decode prog_26_method_9_code 1 = .ok (.aload_n 0, 1) := by decide +kernel
theorem d4_2 : decode prog_26_method_9_code 2 = .ok (.getfield 60, 3) := by decide +kernel
theorem d4_5 : decode prog_26_method_9_code 5 = .ok (.iload_n 1, 1) := by decide +kernel
theorem d4_6 : decode prog_26_method_9_code 6 = .ok (.invokestatic 54, 3) := by decide +kernel
theorem pd_0 : parseMethodDescriptor "(II)I" = some ⟨[.int, .int], some .int⟩ := by decide +kernel
theorem d4_9 : decode prog_26_method_9_code 9 = .ok (.putfield 60, 3) := by decide +kernel
theorem d4_12 : decode prog_26_method_9_code 12 = .ok (.return_, 1) := by decide +kernel
def Q4 (Z : State) (a1 : Addr) (p1 : Int32) (u_dropsNames : Int32) (u_nesting : Int32) (u_passedOnDeclarations : Int64) (u_passedOnChars : Int64) (u_documentTypeDeclaration : Int32) (u_bytes : Int64) (u_stretch : Int64) (u_started : Int32) (u_internalGeneralEntity : Int32) (u_internalParameterEntity : Int32) (u_attributeList : Int32) (u_declaringBytes : Int64) (h0 : Heap) (n0 : Nat) (v : Option Value) (h : Heap) (L : List Loc) : Prop := v = none ∧ Fr n0 L ∧ Keep h0 h [a1] ∧ Fld Z h a1 "com/example/skope/skope/xml/Intake" "dropsNames" "Z" (.int u_dropsNames) ∧ Fld Z h a1 "com/example/skope/skope/xml/Intake" "nesting" "I" (.int (own_max u_nesting p1)) ∧ Fld Z h a1 "com/example/skope/skope/xml/Intake" "passedOnDeclarations" "J" (.long u_passedOnDeclarations) ∧ Fld Z h a1 "com/example/skope/skope/xml/Intake" "passedOnChars" "J" (.long u_passedOnChars) ∧ Fld Z h a1 "com/example/skope/skope/xml/Intake" "documentTypeDeclaration" "Z" (.int u_documentTypeDeclaration) ∧ Fld Z h a1 "com/example/skope/skope/xml/Intake" "bytes" "J" (.long u_bytes) ∧ Fld Z h a1 "com/example/skope/skope/xml/Intake" "stretch" "J" (.long u_stretch) ∧ Fld Z h a1 "com/example/skope/skope/xml/Intake" "started" "Z" (.int u_started) ∧ Fld Z h a1 "com/example/skope/skope/xml/Intake" "internalGeneralEntity" "Z" (.int u_internalGeneralEntity) ∧ Fld Z h a1 "com/example/skope/skope/xml/Intake" "internalParameterEntity" "Z" (.int u_internalParameterEntity) ∧ Fld Z h a1 "com/example/skope/skope/xml/Intake" "attributeList" "Z" (.int u_attributeList) ∧ Fld Z h a1 "com/example/skope/skope/xml/Intake" "declaringBytes" "J" (.long u_declaringBytes)
set_option maxRecDepth 65536 in
set_option maxHeartbeats 40000000 in
theorem rm4 (l : Launch) (Z : State) (a0 : Array Value) (hw : ∀ d ∈ tables_1, d.before a0 Z = true) (ws : List Jvm.Cond) (a1 : Addr) (p1 : Int32) (u_dropsNames : Int32) (u_nesting : Int32) (u_passedOnDeclarations : Int64) (u_passedOnChars : Int64) (u_documentTypeDeclaration : Int32) (u_bytes : Int64) (u_stretch : Int64) (u_started : Int32) (u_internalGeneralEntity : Int32) (u_internalParameterEntity : Int32) (u_attributeList : Int32) (u_declaringBytes : Int64) (h0 : Heap) (n0 : Nat) (Z0 : n0 ≤ h0.size) (E_a1 : Exa Z h0 a1 "com/example/skope/skope/xml/Intake") (g_a1 : n0 ≤ a1) (F_a1_dropsNames : Fld Z h0 a1 "com/example/skope/skope/xml/Intake" "dropsNames" "Z" (.int u_dropsNames)) (F_a1_nesting : Fld Z h0 a1 "com/example/skope/skope/xml/Intake" "nesting" "I" (.int u_nesting)) (F_a1_passedOnDeclarations : Fld Z h0 a1 "com/example/skope/skope/xml/Intake" "passedOnDeclarations" "J" (.long u_passedOnDeclarations)) (F_a1_passedOnChars : Fld Z h0 a1 "com/example/skope/skope/xml/Intake" "passedOnChars" "J" (.long u_passedOnChars)) (F_a1_documentTypeDeclaration : Fld Z h0 a1 "com/example/skope/skope/xml/Intake" "documentTypeDeclaration" "Z" (.int u_documentTypeDeclaration)) (F_a1_bytes : Fld Z h0 a1 "com/example/skope/skope/xml/Intake" "bytes" "J" (.long u_bytes)) (F_a1_stretch : Fld Z h0 a1 "com/example/skope/skope/xml/Intake" "stretch" "J" (.long u_stretch)) (F_a1_started : Fld Z h0 a1 "com/example/skope/skope/xml/Intake" "started" "Z" (.int u_started)) (F_a1_internalGeneralEntity : Fld Z h0 a1 "com/example/skope/skope/xml/Intake" "internalGeneralEntity" "Z" (.int u_internalGeneralEntity)) (F_a1_internalParameterEntity : Fld Z h0 a1 "com/example/skope/skope/xml/Intake" "internalParameterEntity" "Z" (.int u_internalParameterEntity)) (F_a1_attributeList : Fld Z h0 a1 "com/example/skope/skope/xml/Intake" "attributeList" "Z" (.int u_attributeList)) (F_a1_declaringBytes : Fld Z h0 a1 "com/example/skope/skope/xml/Intake" "declaringBytes" "J" (.long u_declaringBytes)) :
    MetFree l (⟨"com/example/skope/skope/xml/Intake", "addNesting", "(I)V"⟩ : MethodName) (head1 (Jvm.Cond.code (⟨"com/example/skope/skope/xml/Intake", "addNesting", "(I)V"⟩ : MethodName) prog_26_method_9_code 2 none :: ws) ({ frames := 1, cells := 0, slots := 0, locals := 14 } : Room)) (fun a U => a = #[(.ref a1), (.int p1)] ∧ Z.Warmed39 U.vm ∧ U.heap = h0) (fun _ _ _ _ _ => True) (fun _ U o U' => ∃ v L, o = .returned v ∧ Q4 Z a1 p1 u_dropsNames u_nesting u_passedOnDeclarations u_passedOnChars u_documentTypeDeclaration u_bytes u_stretch u_started u_internalGeneralEntity u_internalParameterEntity u_attributeList u_declaringBytes h0 n0 v U'.heap L ∧ FrameEnd U o U' L ({ frames := 1, cells := 0, slots := 0, locals := 14 } : Room).cells ({ frames := 1, cells := 0, slots := 0, locals := 14 } : Room).slots) := by
  refine MetFree.of_bodySF (plainFor_of_name pn_0) hisR ?_
  intro p e s m args below meth c s₁ Bd hml0 hP hK
  obtain ⟨rfl, hZ, hh⟩ := hP
  have hx := Bd.exec
  have hby := Bd.bytes
  have hml : c.maxLocals = 2 := hml0
  have hown : s.vm.findClass "com/example/skope/skope/xml/Intake" = some m.cls := findClass_of_methodNamed Bd.named
  have hnm := (name_of_methodNamed Bd.named Bd.method).1
  have X0 : Stand p l e ({ frames := 1, cells := 0, slots := 0, locals := 14 } : Room) s m #[(.ref a1), (.int p1)] below meth c s₁ [] 0 0 := Stand.of_body Bd
  have e0 : s₁.heap = h0 := by rw [← hh, Bd.state]; rfl
  have NF := Fr.nil n0
  have KP : Keep h0 h0 [a1] := Keep.refl h0 _
  refine WP.go ?_
  refine WP.cast (ef_4 m a1 p1) ?_
  refine WP.name ?_
  intro G hG
  have bk14 : ∀ t, Steps p.tables e below (s₁.setTop (mkF m 2 #[.val (.ref a1), .val (.int p1)] [(.ref a1), (.ref a1)])) t → Steps p.tables e below (s₁.setTop (mkF m 0 #[.val (.ref a1), .val (.int p1)] [])) t := fun t k => by
    refine XS.aloadN X0.here hx rfl (hb hby d4_0) rfl rfl ?_
    show Steps p.tables e below (s₁.setTop (mkF m 1 #[.val (.ref a1), .val (.int p1)] [(.ref a1)])) t
    refine XS.aloadN X0.here hx rfl (hb hby d4_1) rfl rfl ?_
    exact k
  refine WP.st bk14 ?_
  clear bk14
  obtain ⟨T15, X15, e15, st15⟩ := getF X0 hx hZ hown (host := "") (Or.inl (hw _ (List.mem_of_getElem? (i := 24) rfl))) Via.refl e0 F_a1_nesting (g := (mkF m 2 #[.val (.ref a1), .val (.int p1)] [(.ref a1), (.ref a1)])) rfl rfl (hb hby d4_2)
  refine WP.st st15 ?_
  clear st15
  show WP p.tables e below _ T15 (mkF m 5 #[.val (.ref a1), .val (.int p1)] [(.int u_nesting), (.ref a1)])
  have bk16 : ∀ t, Steps p.tables e below (T15.setTop (mkF m 6 #[.val (.ref a1), .val (.int p1)] [(.int p1), (.int u_nesting), (.ref a1)])) t → Steps p.tables e below (T15.setTop (mkF m 5 #[.val (.ref a1), .val (.int p1)] [(.int u_nesting), (.ref a1)])) t := fun t k => by
    refine XS.iloadN X15.here hx rfl (hb hby d4_5) rfl ?_
    exact k
  refine WP.st bk16 ?_
  clear bk16
  obtain ⟨_, _, ⟨T17, L17, k17, n17⟩, -, X17, ⟨Lc17, hQ17, l17, y17, z17⟩, st17⟩ := Jvm.LawKit.callS X15 hx (y := (⟨"java/lang/Math", "max", "(II)I"⟩ : MethodName)) hown (mvT hZ (hw _ (List.mem_of_getElem? (i := 26) rfl))) (mvT hZ (hw _ (List.mem_of_getElem? (i := 27) rfl))) (mvT hZ (hw _ (List.mem_of_getElem? (i := 28) rfl))) (mvT hZ (hw _ (List.mem_of_getElem? (i := 29) rfl))) (by decide) (backOf (W := 1) (rm5 l Z a0 hw [] u_nesting p1 h0 n0 Z0 ) hZ (hw _ (List.mem_of_getElem? (i := 29) rfl)) (hw _ (List.mem_of_getElem? (i := 28) rfl)) (by decide) (by decide)) (g := (mkF m 6 #[.val (.ref a1), .val (.int p1)] [(.int p1), (.int u_nesting), (.ref a1)])) rfl (by rw [hml]; rfl) (argsL := [(.int u_nesting), (.int p1)]) (rest := [(.ref a1)]) (lenOf pd_0 rfl) rfl (by show 2 * 0 + _ ≤ _; exact Nat.le_of_eq rfl) (hb hby d4_6) (fun _ _ => ⟨rfl, e15, (by decide : 0 + 0 ≤ _), (by decide : 0 + 0 ≤ _)⟩)
  dsimp only [Pt.U, Pt.locs, Pt.cells, Pt.slots] at X17 l17 y17 z17 st17 hQ17
  subst l17 y17 z17
  obtain ⟨rfl, Nq17, Kq17⟩ := hQ17
  replace NF := Fr.app NF Nq17
  clear Nq17
  refine WP.st st17 ?_
  clear st17
  replace Kq17 := Kq17.trans (rfl : h0 = h0)
  show WP p.tables e below _ T17 (mkF m 9 #[.val (.ref a1), .val (.int p1)] [(.int (own_max u_nesting p1)), (.ref a1)])
  obtain ⟨T18, h18, X18, e18, W18, st18⟩ := putF X17 hx hZ hown (host := "") (Or.inl (hw _ (List.mem_of_getElem? (i := 24) rfl))) Via.refl Kq17 F_a1_nesting E_a1 (Or.inl (hw _ (List.mem_of_getElem? (i := 25) rfl))) (hw _ (List.mem_of_getElem? (i := 1) rfl)) (ty := .int) (by decide) rfl rfl (g := (mkF m 9 #[.val (.ref a1), .val (.int p1)] [(.int (own_max u_nesting p1)), (.ref a1)])) rfl rfl (hb hby d4_9)
  refine WP.st st18 ?_
  clear st18
  replace E_a1 := E_a1.wr W18
  replace F_a1_dropsNames := F_a1_dropsNames.other W18 (Or.inr (slot_ne (Or.inl (hw _ (List.mem_of_getElem? (i := 13) rfl))) (Or.inl (hw _ (List.mem_of_getElem? (i := 25) rfl))) (by decide) (t := .boolean) (t' := .int) (by decide) (by decide)))
  replace F_a1_nesting := F_a1_nesting.same W18
  replace F_a1_passedOnDeclarations := F_a1_passedOnDeclarations.other W18 (Or.inr (slot_ne (Or.inl (hw _ (List.mem_of_getElem? (i := 36) rfl))) (Or.inl (hw _ (List.mem_of_getElem? (i := 25) rfl))) (by decide) (t := .long) (t' := .int) (by decide) (by decide)))
  replace F_a1_passedOnChars := F_a1_passedOnChars.other W18 (Or.inr (slot_ne (Or.inl (hw _ (List.mem_of_getElem? (i := 38) rfl))) (Or.inl (hw _ (List.mem_of_getElem? (i := 25) rfl))) (by decide) (t := .long) (t' := .int) (by decide) (by decide)))
  replace F_a1_documentTypeDeclaration := F_a1_documentTypeDeclaration.other W18 (Or.inr (slot_ne (Or.inl (hw _ (List.mem_of_getElem? (i := 50) rfl))) (Or.inl (hw _ (List.mem_of_getElem? (i := 25) rfl))) (by decide) (t := .boolean) (t' := .int) (by decide) (by decide)))
  replace F_a1_bytes := F_a1_bytes.other W18 (Or.inr (slot_ne (Or.inl (hw _ (List.mem_of_getElem? (i := 52) rfl))) (Or.inl (hw _ (List.mem_of_getElem? (i := 25) rfl))) (by decide) (t := .long) (t' := .int) (by decide) (by decide)))
  replace F_a1_stretch := F_a1_stretch.other W18 (Or.inr (slot_ne (Or.inl (hw _ (List.mem_of_getElem? (i := 54) rfl))) (Or.inl (hw _ (List.mem_of_getElem? (i := 25) rfl))) (by decide) (t := .long) (t' := .int) (by decide) (by decide)))
  replace F_a1_started := F_a1_started.other W18 (Or.inr (slot_ne (Or.inl (hw _ (List.mem_of_getElem? (i := 56) rfl))) (Or.inl (hw _ (List.mem_of_getElem? (i := 25) rfl))) (by decide) (t := .boolean) (t' := .int) (by decide) (by decide)))
  replace F_a1_internalGeneralEntity := F_a1_internalGeneralEntity.other W18 (Or.inr (slot_ne (Or.inl (hw _ (List.mem_of_getElem? (i := 58) rfl))) (Or.inl (hw _ (List.mem_of_getElem? (i := 25) rfl))) (by decide) (t := .boolean) (t' := .int) (by decide) (by decide)))
  replace F_a1_internalParameterEntity := F_a1_internalParameterEntity.other W18 (Or.inr (slot_ne (Or.inl (hw _ (List.mem_of_getElem? (i := 60) rfl))) (Or.inl (hw _ (List.mem_of_getElem? (i := 25) rfl))) (by decide) (t := .boolean) (t' := .int) (by decide) (by decide)))
  replace F_a1_attributeList := F_a1_attributeList.other W18 (Or.inr (slot_ne (Or.inl (hw _ (List.mem_of_getElem? (i := 62) rfl))) (Or.inl (hw _ (List.mem_of_getElem? (i := 25) rfl))) (by decide) (t := .boolean) (t' := .int) (by decide) (by decide)))
  replace F_a1_declaringBytes := F_a1_declaringBytes.other W18 (Or.inr (slot_ne (Or.inl (hw _ (List.mem_of_getElem? (i := 69) rfl))) (Or.inl (hw _ (List.mem_of_getElem? (i := 25) rfl))) (by decide) (t := .long) (t' := .int) (by decide) (by decide)))
  replace Z0 := Nat.le_trans Z0 (Keep.of_wr W18).1
  replace KP := KP.wr W18 (Or.inl (List.mem_of_getElem? (i := 0) rfl))
  replace NF := Fr.snoc X18 NF g_a1
  clear W18
  show WP p.tables e below _ T18 (mkF m 12 #[.val (.ref a1), .val (.int p1)] [])
  subst hG
  obtain ⟨fs, hr, hrun, hended, hW, hsame⟩ := X18.leave (v := none) (fun _ => rfl)
  refine WP.fin ⟨_, _, ?_, hrun, hended, _, _, rfl, ?_, ⟨_, rfl⟩, hW, hsame.mono (by decide) (by decide)⟩
  · exact X18.returnOut hx Bd.returns (hb hby d4_12) hr
  · show Q4 Z a1 p1 u_dropsNames u_nesting u_passedOnDeclarations u_passedOnChars u_documentTypeDeclaration u_bytes u_stretch u_started u_internalGeneralEntity u_internalParameterEntity u_attributeList u_declaringBytes h0 n0 _ T18.heap _
    rw [e18]
    exact ⟨rfl, NF, KP, F_a1_dropsNames, F_a1_nesting, F_a1_passedOnDeclarations, F_a1_passedOnChars, F_a1_documentTypeDeclaration, F_a1_bytes, F_a1_stretch, F_a1_started, F_a1_internalGeneralEntity, F_a1_internalParameterEntity, F_a1_attributeList, F_a1_declaringBytes⟩
theorem ef_6 (m : MethodId) (a1 : Addr) (q1 : Int64) (q2 : Int64) : entryFrame m #[(.ref a1), (.long q1), (.long q2)] 5 = mkF m 0 #[.val (.ref a1), .val (.long q1), .second, .val (.long q2), .second] [] := by first | (simp [entryFrame, mkF, argsToLocals, Value.category]; done) | rfl
theorem d6_0 : decode prog_26_method_16_code 0 = .ok (.aload_n 0, 1) := by decide +kernel
theorem d6_1 : decode prog_26_method_16_code 1 = .ok (.lload_n 1, 1) := by decide +kernel
theorem d6_2 : decode prog_26_method_16_code 2 = .ok (.putfield 85, 3) := by decide +kernel
theorem d6_5 : decode prog_26_method_16_code 5 = .ok (.aload_n 0, 1) := by decide +kernel
theorem d6_6 : decode prog_26_method_16_code 6 = .ok (.lload_n 3, 1) := by decide +kernel
theorem d6_7 : decode prog_26_method_16_code 7 = .ok (.putfield 88, 3) := by decide +kernel
theorem d6_10 : decode prog_26_method_16_code 10 = .ok (.return_, 1) := by decide +kernel
def Q6 (Z : State) (a1 : Addr) (q1 : Int64) (q2 : Int64) (u_dropsNames : Int32) (u_nesting : Int32) (u_passedOnDeclarations : Int64) (u_passedOnChars : Int64) (u_documentTypeDeclaration : Int32) (u_bytes : Int64) (u_stretch : Int64) (u_started : Int32) (u_internalGeneralEntity : Int32) (u_internalParameterEntity : Int32) (u_attributeList : Int32) (u_declaringBytes : Int64) (h0 : Heap) (n0 : Nat) (v : Option Value) (h : Heap) (L : List Loc) : Prop := v = none ∧ Fr n0 L ∧ Keep h0 h [a1] ∧ Fld Z h a1 "com/example/skope/skope/xml/Intake" "dropsNames" "Z" (.int u_dropsNames) ∧ Fld Z h a1 "com/example/skope/skope/xml/Intake" "nesting" "I" (.int u_nesting) ∧ Fld Z h a1 "com/example/skope/skope/xml/Intake" "passedOnDeclarations" "J" (.long q1) ∧ Fld Z h a1 "com/example/skope/skope/xml/Intake" "passedOnChars" "J" (.long q2) ∧ Fld Z h a1 "com/example/skope/skope/xml/Intake" "documentTypeDeclaration" "Z" (.int u_documentTypeDeclaration) ∧ Fld Z h a1 "com/example/skope/skope/xml/Intake" "bytes" "J" (.long u_bytes) ∧ Fld Z h a1 "com/example/skope/skope/xml/Intake" "stretch" "J" (.long u_stretch) ∧ Fld Z h a1 "com/example/skope/skope/xml/Intake" "started" "Z" (.int u_started) ∧ Fld Z h a1 "com/example/skope/skope/xml/Intake" "internalGeneralEntity" "Z" (.int u_internalGeneralEntity) ∧ Fld Z h a1 "com/example/skope/skope/xml/Intake" "internalParameterEntity" "Z" (.int u_internalParameterEntity) ∧ Fld Z h a1 "com/example/skope/skope/xml/Intake" "attributeList" "Z" (.int u_attributeList) ∧ Fld Z h a1 "com/example/skope/skope/xml/Intake" "declaringBytes" "J" (.long u_declaringBytes)
set_option maxRecDepth 65536 in
set_option maxHeartbeats 40000000 in
theorem rm6 (l : Launch) (Z : State) (a0 : Array Value) (hw : ∀ d ∈ tables_1, d.before a0 Z = true) (ws : List Jvm.Cond) (a1 : Addr) (q1 : Int64) (q2 : Int64) (u_dropsNames : Int32) (u_nesting : Int32) (u_passedOnDeclarations : Int64) (u_passedOnChars : Int64) (u_documentTypeDeclaration : Int32) (u_bytes : Int64) (u_stretch : Int64) (u_started : Int32) (u_internalGeneralEntity : Int32) (u_internalParameterEntity : Int32) (u_attributeList : Int32) (u_declaringBytes : Int64) (h0 : Heap) (n0 : Nat) (Z0 : n0 ≤ h0.size) (E_a1 : Exa Z h0 a1 "com/example/skope/skope/xml/Intake") (g_a1 : n0 ≤ a1) (F_a1_dropsNames : Fld Z h0 a1 "com/example/skope/skope/xml/Intake" "dropsNames" "Z" (.int u_dropsNames)) (F_a1_nesting : Fld Z h0 a1 "com/example/skope/skope/xml/Intake" "nesting" "I" (.int u_nesting)) (F_a1_passedOnDeclarations : Fld Z h0 a1 "com/example/skope/skope/xml/Intake" "passedOnDeclarations" "J" (.long u_passedOnDeclarations)) (F_a1_passedOnChars : Fld Z h0 a1 "com/example/skope/skope/xml/Intake" "passedOnChars" "J" (.long u_passedOnChars)) (F_a1_documentTypeDeclaration : Fld Z h0 a1 "com/example/skope/skope/xml/Intake" "documentTypeDeclaration" "Z" (.int u_documentTypeDeclaration)) (F_a1_bytes : Fld Z h0 a1 "com/example/skope/skope/xml/Intake" "bytes" "J" (.long u_bytes)) (F_a1_stretch : Fld Z h0 a1 "com/example/skope/skope/xml/Intake" "stretch" "J" (.long u_stretch)) (F_a1_started : Fld Z h0 a1 "com/example/skope/skope/xml/Intake" "started" "Z" (.int u_started)) (F_a1_internalGeneralEntity : Fld Z h0 a1 "com/example/skope/skope/xml/Intake" "internalGeneralEntity" "Z" (.int u_internalGeneralEntity)) (F_a1_internalParameterEntity : Fld Z h0 a1 "com/example/skope/skope/xml/Intake" "internalParameterEntity" "Z" (.int u_internalParameterEntity)) (F_a1_attributeList : Fld Z h0 a1 "com/example/skope/skope/xml/Intake" "attributeList" "Z" (.int u_attributeList)) (F_a1_declaringBytes : Fld Z h0 a1 "com/example/skope/skope/xml/Intake" "declaringBytes" "J" (.long u_declaringBytes)) :
    MetFree l (⟨"com/example/skope/skope/xml/Intake", "passOn", "(JJ)V"⟩ : MethodName) (head1 (Jvm.Cond.code (⟨"com/example/skope/skope/xml/Intake", "passOn", "(JJ)V"⟩ : MethodName) prog_26_method_16_code 5 none :: ws) ({ frames := 0, cells := 0, slots := 0, locals := 0 } : Room)) (fun a U => a = #[(.ref a1), (.long q1), (.long q2)] ∧ Z.Warmed39 U.vm ∧ U.heap = h0) (fun _ _ _ _ _ => True) (fun _ U o U' => ∃ v L, o = .returned v ∧ Q6 Z a1 q1 q2 u_dropsNames u_nesting u_passedOnDeclarations u_passedOnChars u_documentTypeDeclaration u_bytes u_stretch u_started u_internalGeneralEntity u_internalParameterEntity u_attributeList u_declaringBytes h0 n0 v U'.heap L ∧ FrameEnd U o U' L ({ frames := 0, cells := 0, slots := 0, locals := 0 } : Room).cells ({ frames := 0, cells := 0, slots := 0, locals := 0 } : Room).slots) := by
  refine MetFree.of_bodySF (plainFor_of_name pn_0) hisR ?_
  intro p e s m args below meth c s₁ Bd hml0 hP hK
  obtain ⟨rfl, hZ, hh⟩ := hP
  have hx := Bd.exec
  have hby := Bd.bytes
  have hml : c.maxLocals = 5 := hml0
  have hown : s.vm.findClass "com/example/skope/skope/xml/Intake" = some m.cls := findClass_of_methodNamed Bd.named
  have hnm := (name_of_methodNamed Bd.named Bd.method).1
  have X0 : Stand p l e ({ frames := 0, cells := 0, slots := 0, locals := 0 } : Room) s m #[(.ref a1), (.long q1), (.long q2)] below meth c s₁ [] 0 0 := Stand.of_body Bd
  have e0 : s₁.heap = h0 := by rw [← hh, Bd.state]; rfl
  have NF := Fr.nil n0
  have KP : Keep h0 h0 [a1] := Keep.refl h0 _
  refine WP.go ?_
  refine WP.cast (ef_6 m a1 q1 q2) ?_
  refine WP.name ?_
  intro G hG
  have bk19 : ∀ t, Steps p.tables e below (s₁.setTop (mkF m 2 #[.val (.ref a1), .val (.long q1), .second, .val (.long q2), .second] [(.long q1), (.ref a1)])) t → Steps p.tables e below (s₁.setTop (mkF m 0 #[.val (.ref a1), .val (.long q1), .second, .val (.long q2), .second] [])) t := fun t k => by
    refine XS.aloadN X0.here hx rfl (hb hby d6_0) rfl rfl ?_
    show Steps p.tables e below (s₁.setTop (mkF m 1 #[.val (.ref a1), .val (.long q1), .second, .val (.long q2), .second] [(.ref a1)])) t
    refine XS.lloadN X0.here hx rfl (hb hby d6_1) rfl ?_
    exact k
  refine WP.st bk19 ?_
  clear bk19
  obtain ⟨T20, h20, X20, e20, W20, st20⟩ := putF X0 hx hZ hown (host := "") (Or.inl (hw _ (List.mem_of_getElem? (i := 35) rfl))) Via.refl e0 F_a1_passedOnDeclarations E_a1 (Or.inl (hw _ (List.mem_of_getElem? (i := 36) rfl))) (hw _ (List.mem_of_getElem? (i := 1) rfl)) (ty := .long) (by decide) rfl rfl (g := (mkF m 2 #[.val (.ref a1), .val (.long q1), .second, .val (.long q2), .second] [(.long q1), (.ref a1)])) rfl rfl (hb hby d6_2)
  refine WP.st st20 ?_
  clear st20
  replace E_a1 := E_a1.wr W20
  replace F_a1_dropsNames := F_a1_dropsNames.other W20 (Or.inr (slot_ne (Or.inl (hw _ (List.mem_of_getElem? (i := 13) rfl))) (Or.inl (hw _ (List.mem_of_getElem? (i := 36) rfl))) (by decide) (t := .boolean) (t' := .long) (by decide) (by decide)))
  replace F_a1_nesting := F_a1_nesting.other W20 (Or.inr (slot_ne (Or.inl (hw _ (List.mem_of_getElem? (i := 25) rfl))) (Or.inl (hw _ (List.mem_of_getElem? (i := 36) rfl))) (by decide) (t := .int) (t' := .long) (by decide) (by decide)))
  replace F_a1_passedOnDeclarations := F_a1_passedOnDeclarations.same W20
  replace F_a1_passedOnChars := F_a1_passedOnChars.other W20 (Or.inr (slot_ne (Or.inl (hw _ (List.mem_of_getElem? (i := 38) rfl))) (Or.inl (hw _ (List.mem_of_getElem? (i := 36) rfl))) (by decide) (t := .long) (t' := .long) (by decide) (by decide)))
  replace F_a1_documentTypeDeclaration := F_a1_documentTypeDeclaration.other W20 (Or.inr (slot_ne (Or.inl (hw _ (List.mem_of_getElem? (i := 50) rfl))) (Or.inl (hw _ (List.mem_of_getElem? (i := 36) rfl))) (by decide) (t := .boolean) (t' := .long) (by decide) (by decide)))
  replace F_a1_bytes := F_a1_bytes.other W20 (Or.inr (slot_ne (Or.inl (hw _ (List.mem_of_getElem? (i := 52) rfl))) (Or.inl (hw _ (List.mem_of_getElem? (i := 36) rfl))) (by decide) (t := .long) (t' := .long) (by decide) (by decide)))
  replace F_a1_stretch := F_a1_stretch.other W20 (Or.inr (slot_ne (Or.inl (hw _ (List.mem_of_getElem? (i := 54) rfl))) (Or.inl (hw _ (List.mem_of_getElem? (i := 36) rfl))) (by decide) (t := .long) (t' := .long) (by decide) (by decide)))
  replace F_a1_started := F_a1_started.other W20 (Or.inr (slot_ne (Or.inl (hw _ (List.mem_of_getElem? (i := 56) rfl))) (Or.inl (hw _ (List.mem_of_getElem? (i := 36) rfl))) (by decide) (t := .boolean) (t' := .long) (by decide) (by decide)))
  replace F_a1_internalGeneralEntity := F_a1_internalGeneralEntity.other W20 (Or.inr (slot_ne (Or.inl (hw _ (List.mem_of_getElem? (i := 58) rfl))) (Or.inl (hw _ (List.mem_of_getElem? (i := 36) rfl))) (by decide) (t := .boolean) (t' := .long) (by decide) (by decide)))
  replace F_a1_internalParameterEntity := F_a1_internalParameterEntity.other W20 (Or.inr (slot_ne (Or.inl (hw _ (List.mem_of_getElem? (i := 60) rfl))) (Or.inl (hw _ (List.mem_of_getElem? (i := 36) rfl))) (by decide) (t := .boolean) (t' := .long) (by decide) (by decide)))
  replace F_a1_attributeList := F_a1_attributeList.other W20 (Or.inr (slot_ne (Or.inl (hw _ (List.mem_of_getElem? (i := 62) rfl))) (Or.inl (hw _ (List.mem_of_getElem? (i := 36) rfl))) (by decide) (t := .boolean) (t' := .long) (by decide) (by decide)))
  replace F_a1_declaringBytes := F_a1_declaringBytes.other W20 (Or.inr (slot_ne (Or.inl (hw _ (List.mem_of_getElem? (i := 69) rfl))) (Or.inl (hw _ (List.mem_of_getElem? (i := 36) rfl))) (by decide) (t := .long) (t' := .long) (by decide) (by decide)))
  replace Z0 := Nat.le_trans Z0 (Keep.of_wr W20).1
  replace KP := KP.wr W20 (Or.inl (List.mem_of_getElem? (i := 0) rfl))
  replace NF := Fr.snoc X20 NF g_a1
  clear W20
  show WP p.tables e below _ T20 (mkF m 5 #[.val (.ref a1), .val (.long q1), .second, .val (.long q2), .second] [])
  have bk21 : ∀ t, Steps p.tables e below (T20.setTop (mkF m 7 #[.val (.ref a1), .val (.long q1), .second, .val (.long q2), .second] [(.long q2), (.ref a1)])) t → Steps p.tables e below (T20.setTop (mkF m 5 #[.val (.ref a1), .val (.long q1), .second, .val (.long q2), .second] [])) t := fun t k => by
    refine XS.aloadN X20.here hx rfl (hb hby d6_5) rfl rfl ?_
    show Steps p.tables e below (T20.setTop (mkF m 6 #[.val (.ref a1), .val (.long q1), .second, .val (.long q2), .second] [(.ref a1)])) t
    refine XS.lloadN X20.here hx rfl (hb hby d6_6) rfl ?_
    exact k
  refine WP.st bk21 ?_
  clear bk21
  obtain ⟨T22, h22, X22, e22, W22, st22⟩ := putF X20 hx hZ hown (host := "") (Or.inl (hw _ (List.mem_of_getElem? (i := 37) rfl))) Via.refl e20 F_a1_passedOnChars E_a1 (Or.inl (hw _ (List.mem_of_getElem? (i := 38) rfl))) (hw _ (List.mem_of_getElem? (i := 1) rfl)) (ty := .long) (by decide) rfl rfl (g := (mkF m 7 #[.val (.ref a1), .val (.long q1), .second, .val (.long q2), .second] [(.long q2), (.ref a1)])) rfl rfl (hb hby d6_7)
  refine WP.st st22 ?_
  clear st22
  replace E_a1 := E_a1.wr W22
  replace F_a1_dropsNames := F_a1_dropsNames.other W22 (Or.inr (slot_ne (Or.inl (hw _ (List.mem_of_getElem? (i := 13) rfl))) (Or.inl (hw _ (List.mem_of_getElem? (i := 38) rfl))) (by decide) (t := .boolean) (t' := .long) (by decide) (by decide)))
  replace F_a1_nesting := F_a1_nesting.other W22 (Or.inr (slot_ne (Or.inl (hw _ (List.mem_of_getElem? (i := 25) rfl))) (Or.inl (hw _ (List.mem_of_getElem? (i := 38) rfl))) (by decide) (t := .int) (t' := .long) (by decide) (by decide)))
  replace F_a1_passedOnDeclarations := F_a1_passedOnDeclarations.other W22 (Or.inr (slot_ne (Or.inl (hw _ (List.mem_of_getElem? (i := 36) rfl))) (Or.inl (hw _ (List.mem_of_getElem? (i := 38) rfl))) (by decide) (t := .long) (t' := .long) (by decide) (by decide)))
  replace F_a1_passedOnChars := F_a1_passedOnChars.same W22
  replace F_a1_documentTypeDeclaration := F_a1_documentTypeDeclaration.other W22 (Or.inr (slot_ne (Or.inl (hw _ (List.mem_of_getElem? (i := 50) rfl))) (Or.inl (hw _ (List.mem_of_getElem? (i := 38) rfl))) (by decide) (t := .boolean) (t' := .long) (by decide) (by decide)))
  replace F_a1_bytes := F_a1_bytes.other W22 (Or.inr (slot_ne (Or.inl (hw _ (List.mem_of_getElem? (i := 52) rfl))) (Or.inl (hw _ (List.mem_of_getElem? (i := 38) rfl))) (by decide) (t := .long) (t' := .long) (by decide) (by decide)))
  replace F_a1_stretch := F_a1_stretch.other W22 (Or.inr (slot_ne (Or.inl (hw _ (List.mem_of_getElem? (i := 54) rfl))) (Or.inl (hw _ (List.mem_of_getElem? (i := 38) rfl))) (by decide) (t := .long) (t' := .long) (by decide) (by decide)))
  replace F_a1_started := F_a1_started.other W22 (Or.inr (slot_ne (Or.inl (hw _ (List.mem_of_getElem? (i := 56) rfl))) (Or.inl (hw _ (List.mem_of_getElem? (i := 38) rfl))) (by decide) (t := .boolean) (t' := .long) (by decide) (by decide)))
  replace F_a1_internalGeneralEntity := F_a1_internalGeneralEntity.other W22 (Or.inr (slot_ne (Or.inl (hw _ (List.mem_of_getElem? (i := 58) rfl))) (Or.inl (hw _ (List.mem_of_getElem? (i := 38) rfl))) (by decide) (t := .boolean) (t' := .long) (by decide) (by decide)))
  replace F_a1_internalParameterEntity := F_a1_internalParameterEntity.other W22 (Or.inr (slot_ne (Or.inl (hw _ (List.mem_of_getElem? (i := 60) rfl))) (Or.inl (hw _ (List.mem_of_getElem? (i := 38) rfl))) (by decide) (t := .boolean) (t' := .long) (by decide) (by decide)))
  replace F_a1_attributeList := F_a1_attributeList.other W22 (Or.inr (slot_ne (Or.inl (hw _ (List.mem_of_getElem? (i := 62) rfl))) (Or.inl (hw _ (List.mem_of_getElem? (i := 38) rfl))) (by decide) (t := .boolean) (t' := .long) (by decide) (by decide)))
  replace F_a1_declaringBytes := F_a1_declaringBytes.other W22 (Or.inr (slot_ne (Or.inl (hw _ (List.mem_of_getElem? (i := 69) rfl))) (Or.inl (hw _ (List.mem_of_getElem? (i := 38) rfl))) (by decide) (t := .long) (t' := .long) (by decide) (by decide)))
  replace Z0 := Nat.le_trans Z0 (Keep.of_wr W22).1
  replace KP := KP.wr W22 (Or.inl (List.mem_of_getElem? (i := 0) rfl))
  replace NF := Fr.snoc X22 NF g_a1
  clear W22
  show WP p.tables e below _ T22 (mkF m 10 #[.val (.ref a1), .val (.long q1), .second, .val (.long q2), .second] [])
  subst hG
  obtain ⟨fs, hr, hrun, hended, hW, hsame⟩ := X22.leave (v := none) (fun _ => rfl)
  refine WP.fin ⟨_, _, ?_, hrun, hended, _, _, rfl, ?_, ⟨_, rfl⟩, hW, hsame.mono (by decide) (by decide)⟩
  · exact X22.returnOut hx Bd.returns (hb hby d6_10) hr
  · show Q6 Z a1 q1 q2 u_dropsNames u_nesting u_passedOnDeclarations u_passedOnChars u_documentTypeDeclaration u_bytes u_stretch u_started u_internalGeneralEntity u_internalParameterEntity u_attributeList u_declaringBytes h0 n0 _ T22.heap _
    rw [e22]
    exact ⟨rfl, NF, KP, F_a1_dropsNames, F_a1_nesting, F_a1_passedOnDeclarations, F_a1_passedOnChars, F_a1_documentTypeDeclaration, F_a1_bytes, F_a1_stretch, F_a1_started, F_a1_internalGeneralEntity, F_a1_internalParameterEntity, F_a1_attributeList, F_a1_declaringBytes⟩
theorem ef_7 (m : MethodId) (a1 : Addr) (p1 : Int32) : entryFrame m #[(.ref a1), (.int p1)] 2 = mkF m 0 #[.val (.ref a1), .val (.int p1)] [] := by first | (simp [entryFrame, mkF, argsToLocals, Value.category]; done) | rfl
theorem d7_0 : decode prog_26_method_19_code 0 = .ok (.aload_n 0, 1) := by decide +kernel
theorem d7_1 : decode prog_26_method_19_code 1 = .ok (.iload_n 1, 1) := by decide +kernel
theorem d7_2 : decode prog_26_method_19_code 2 = .ok (.putfield 13, 3) := by decide +kernel
theorem d7_5 : decode prog_26_method_19_code 5 = .ok (.iload_n 1, 1) := by decide +kernel
theorem d7_6 : decode prog_26_method_19_code 6 = .ok (.ifCond .eq 8, 3) := by decide +kernel
theorem d7_14 : decode prog_26_method_19_code 14 = .ok (.return_, 1) := by decide +kernel
theorem d7_9 : decode prog_26_method_19_code 9 = .ok (.aload_n 0, 1) := by decide +kernel
theorem d7_10 : decode prog_26_method_19_code 10 = .ok (.lconst 0, 1) := by decide +kernel
theorem d7_11 : decode prog_26_method_19_code 11 = .ok (.putfield 82, 3) := by decide +kernel
def Q7 (Z : State) (a1 : Addr) (p1 : Int32) (u_dropsNames : Int32) (u_nesting : Int32) (u_passedOnDeclarations : Int64) (u_passedOnChars : Int64) (u_documentTypeDeclaration : Int32) (u_bytes : Int64) (u_stretch : Int64) (u_started : Int32) (u_internalGeneralEntity : Int32) (u_internalParameterEntity : Int32) (u_attributeList : Int32) (u_declaringBytes : Int64) (h0 : Heap) (n0 : Nat) (v : Option Value) (h : Heap) (L : List Loc) : Prop := v = none ∧ Fr n0 L ∧ Keep h0 h [a1] ∧ Fld Z h a1 "com/example/skope/skope/xml/Intake" "dropsNames" "Z" (.int p1) ∧ Fld Z h a1 "com/example/skope/skope/xml/Intake" "nesting" "I" (.int u_nesting) ∧ Fld Z h a1 "com/example/skope/skope/xml/Intake" "passedOnDeclarations" "J" (.long u_passedOnDeclarations) ∧ Fld Z h a1 "com/example/skope/skope/xml/Intake" "passedOnChars" "J" (.long u_passedOnChars) ∧ Fld Z h a1 "com/example/skope/skope/xml/Intake" "documentTypeDeclaration" "Z" (.int u_documentTypeDeclaration) ∧ Fld Z h a1 "com/example/skope/skope/xml/Intake" "bytes" "J" (.long u_bytes) ∧ Fld Z h a1 "com/example/skope/skope/xml/Intake" "stretch" "J" (.long u_stretch) ∧ Fld Z h a1 "com/example/skope/skope/xml/Intake" "started" "Z" (.int u_started) ∧ Fld Z h a1 "com/example/skope/skope/xml/Intake" "internalGeneralEntity" "Z" (.int u_internalGeneralEntity) ∧ Fld Z h a1 "com/example/skope/skope/xml/Intake" "internalParameterEntity" "Z" (.int u_internalParameterEntity) ∧ Fld Z h a1 "com/example/skope/skope/xml/Intake" "attributeList" "Z" (.int u_attributeList) ∧ Fld Z h a1 "com/example/skope/skope/xml/Intake" "declaringBytes" "J" (.long (if p1 = 0 then u_declaringBytes else 0))
set_option maxRecDepth 65536 in
set_option maxHeartbeats 40000000 in
theorem rm7 (l : Launch) (Z : State) (a0 : Array Value) (hw : ∀ d ∈ tables_1, d.before a0 Z = true) (ws : List Jvm.Cond) (a1 : Addr) (p1 : Int32) (u_dropsNames : Int32) (u_nesting : Int32) (u_passedOnDeclarations : Int64) (u_passedOnChars : Int64) (u_documentTypeDeclaration : Int32) (u_bytes : Int64) (u_stretch : Int64) (u_started : Int32) (u_internalGeneralEntity : Int32) (u_internalParameterEntity : Int32) (u_attributeList : Int32) (u_declaringBytes : Int64) (h0 : Heap) (n0 : Nat) (Z0 : n0 ≤ h0.size) (E_a1 : Exa Z h0 a1 "com/example/skope/skope/xml/Intake") (g_a1 : n0 ≤ a1) (F_a1_dropsNames : Fld Z h0 a1 "com/example/skope/skope/xml/Intake" "dropsNames" "Z" (.int u_dropsNames)) (F_a1_nesting : Fld Z h0 a1 "com/example/skope/skope/xml/Intake" "nesting" "I" (.int u_nesting)) (F_a1_passedOnDeclarations : Fld Z h0 a1 "com/example/skope/skope/xml/Intake" "passedOnDeclarations" "J" (.long u_passedOnDeclarations)) (F_a1_passedOnChars : Fld Z h0 a1 "com/example/skope/skope/xml/Intake" "passedOnChars" "J" (.long u_passedOnChars)) (F_a1_documentTypeDeclaration : Fld Z h0 a1 "com/example/skope/skope/xml/Intake" "documentTypeDeclaration" "Z" (.int u_documentTypeDeclaration)) (F_a1_bytes : Fld Z h0 a1 "com/example/skope/skope/xml/Intake" "bytes" "J" (.long u_bytes)) (F_a1_stretch : Fld Z h0 a1 "com/example/skope/skope/xml/Intake" "stretch" "J" (.long u_stretch)) (F_a1_started : Fld Z h0 a1 "com/example/skope/skope/xml/Intake" "started" "Z" (.int u_started)) (F_a1_internalGeneralEntity : Fld Z h0 a1 "com/example/skope/skope/xml/Intake" "internalGeneralEntity" "Z" (.int u_internalGeneralEntity)) (F_a1_internalParameterEntity : Fld Z h0 a1 "com/example/skope/skope/xml/Intake" "internalParameterEntity" "Z" (.int u_internalParameterEntity)) (F_a1_attributeList : Fld Z h0 a1 "com/example/skope/skope/xml/Intake" "attributeList" "Z" (.int u_attributeList)) (F_a1_declaringBytes : Fld Z h0 a1 "com/example/skope/skope/xml/Intake" "declaringBytes" "J" (.long u_declaringBytes)) (h01 : p1 = 0 ∨ p1 = 1) :
    MetFree l (⟨"com/example/skope/skope/xml/Intake", "dropNames", "(Z)V"⟩ : MethodName) (head1 (Jvm.Cond.code (⟨"com/example/skope/skope/xml/Intake", "dropNames", "(Z)V"⟩ : MethodName) prog_26_method_19_code 2 none :: ws) ({ frames := 0, cells := 0, slots := 0, locals := 0 } : Room)) (fun a U => a = #[(.ref a1), (.int p1)] ∧ Z.Warmed39 U.vm ∧ U.heap = h0) (fun _ _ _ _ _ => True) (fun _ U o U' => ∃ v L, o = .returned v ∧ Q7 Z a1 p1 u_dropsNames u_nesting u_passedOnDeclarations u_passedOnChars u_documentTypeDeclaration u_bytes u_stretch u_started u_internalGeneralEntity u_internalParameterEntity u_attributeList u_declaringBytes h0 n0 v U'.heap L ∧ FrameEnd U o U' L ({ frames := 0, cells := 0, slots := 0, locals := 0 } : Room).cells ({ frames := 0, cells := 0, slots := 0, locals := 0 } : Room).slots) := by
  refine MetFree.of_bodySF (plainFor_of_name pn_0) hisR ?_
  intro p e s m args below meth c s₁ Bd hml0 hP hK
  obtain ⟨rfl, hZ, hh⟩ := hP
  have hx := Bd.exec
  have hby := Bd.bytes
  have hml : c.maxLocals = 2 := hml0
  have hown : s.vm.findClass "com/example/skope/skope/xml/Intake" = some m.cls := findClass_of_methodNamed Bd.named
  have hnm := (name_of_methodNamed Bd.named Bd.method).1
  have X0 : Stand p l e ({ frames := 0, cells := 0, slots := 0, locals := 0 } : Room) s m #[(.ref a1), (.int p1)] below meth c s₁ [] 0 0 := Stand.of_body Bd
  have e0 : s₁.heap = h0 := by rw [← hh, Bd.state]; rfl
  have NF := Fr.nil n0
  have KP : Keep h0 h0 [a1] := Keep.refl h0 _
  refine WP.go ?_
  refine WP.cast (ef_7 m a1 p1) ?_
  refine WP.name ?_
  intro G hG
  have bk23 : ∀ t, Steps p.tables e below (s₁.setTop (mkF m 2 #[.val (.ref a1), .val (.int p1)] [(.int p1), (.ref a1)])) t → Steps p.tables e below (s₁.setTop (mkF m 0 #[.val (.ref a1), .val (.int p1)] [])) t := fun t k => by
    refine XS.aloadN X0.here hx rfl (hb hby d7_0) rfl rfl ?_
    show Steps p.tables e below (s₁.setTop (mkF m 1 #[.val (.ref a1), .val (.int p1)] [(.ref a1)])) t
    refine XS.iloadN X0.here hx rfl (hb hby d7_1) rfl ?_
    exact k
  refine WP.st bk23 ?_
  clear bk23
  obtain ⟨T24, h24, X24, e24, W24, st24⟩ := putFN X0 hx hZ hown (hw _ (List.mem_of_getElem? (i := 12) rfl)) Via.refl e0 F_a1_dropsNames E_a1 (Or.inl (hw _ (List.mem_of_getElem? (i := 13) rfl))) (hw _ (List.mem_of_getElem? (i := 1) rfl)) (ty := .boolean) (v := (.int p1)) (v' := (.int p1)) (by decide) (congrArg Value.int (nar01 h01)) (ownFits (t := .boolean) (x := p1) (congrArg Value.int (nar01 h01)) (fits_nar_bool _)) (g := (mkF m 2 #[.val (.ref a1), .val (.int p1)] [(.int p1), (.ref a1)])) rfl rfl (hb hby d7_2)
  refine WP.st st24 ?_
  clear st24
  replace E_a1 := E_a1.wr W24
  replace F_a1_dropsNames := F_a1_dropsNames.same W24
  replace F_a1_nesting := F_a1_nesting.other W24 (Or.inr (slot_ne (Or.inl (hw _ (List.mem_of_getElem? (i := 25) rfl))) (Or.inl (hw _ (List.mem_of_getElem? (i := 13) rfl))) (by decide) (t := .int) (t' := .boolean) (by decide) (by decide)))
  replace F_a1_passedOnDeclarations := F_a1_passedOnDeclarations.other W24 (Or.inr (slot_ne (Or.inl (hw _ (List.mem_of_getElem? (i := 36) rfl))) (Or.inl (hw _ (List.mem_of_getElem? (i := 13) rfl))) (by decide) (t := .long) (t' := .boolean) (by decide) (by decide)))
  replace F_a1_passedOnChars := F_a1_passedOnChars.other W24 (Or.inr (slot_ne (Or.inl (hw _ (List.mem_of_getElem? (i := 38) rfl))) (Or.inl (hw _ (List.mem_of_getElem? (i := 13) rfl))) (by decide) (t := .long) (t' := .boolean) (by decide) (by decide)))
  replace F_a1_documentTypeDeclaration := F_a1_documentTypeDeclaration.other W24 (Or.inr (slot_ne (Or.inl (hw _ (List.mem_of_getElem? (i := 50) rfl))) (Or.inl (hw _ (List.mem_of_getElem? (i := 13) rfl))) (by decide) (t := .boolean) (t' := .boolean) (by decide) (by decide)))
  replace F_a1_bytes := F_a1_bytes.other W24 (Or.inr (slot_ne (Or.inl (hw _ (List.mem_of_getElem? (i := 52) rfl))) (Or.inl (hw _ (List.mem_of_getElem? (i := 13) rfl))) (by decide) (t := .long) (t' := .boolean) (by decide) (by decide)))
  replace F_a1_stretch := F_a1_stretch.other W24 (Or.inr (slot_ne (Or.inl (hw _ (List.mem_of_getElem? (i := 54) rfl))) (Or.inl (hw _ (List.mem_of_getElem? (i := 13) rfl))) (by decide) (t := .long) (t' := .boolean) (by decide) (by decide)))
  replace F_a1_started := F_a1_started.other W24 (Or.inr (slot_ne (Or.inl (hw _ (List.mem_of_getElem? (i := 56) rfl))) (Or.inl (hw _ (List.mem_of_getElem? (i := 13) rfl))) (by decide) (t := .boolean) (t' := .boolean) (by decide) (by decide)))
  replace F_a1_internalGeneralEntity := F_a1_internalGeneralEntity.other W24 (Or.inr (slot_ne (Or.inl (hw _ (List.mem_of_getElem? (i := 58) rfl))) (Or.inl (hw _ (List.mem_of_getElem? (i := 13) rfl))) (by decide) (t := .boolean) (t' := .boolean) (by decide) (by decide)))
  replace F_a1_internalParameterEntity := F_a1_internalParameterEntity.other W24 (Or.inr (slot_ne (Or.inl (hw _ (List.mem_of_getElem? (i := 60) rfl))) (Or.inl (hw _ (List.mem_of_getElem? (i := 13) rfl))) (by decide) (t := .boolean) (t' := .boolean) (by decide) (by decide)))
  replace F_a1_attributeList := F_a1_attributeList.other W24 (Or.inr (slot_ne (Or.inl (hw _ (List.mem_of_getElem? (i := 62) rfl))) (Or.inl (hw _ (List.mem_of_getElem? (i := 13) rfl))) (by decide) (t := .boolean) (t' := .boolean) (by decide) (by decide)))
  replace F_a1_declaringBytes := F_a1_declaringBytes.other W24 (Or.inr (slot_ne (Or.inl (hw _ (List.mem_of_getElem? (i := 69) rfl))) (Or.inl (hw _ (List.mem_of_getElem? (i := 13) rfl))) (by decide) (t := .long) (t' := .boolean) (by decide) (by decide)))
  replace Z0 := Nat.le_trans Z0 (Keep.of_wr W24).1
  replace KP := KP.wr W24 (Or.inl (List.mem_of_getElem? (i := 0) rfl))
  replace NF := Fr.snoc X24 NF g_a1
  clear W24
  show WP p.tables e below _ T24 (mkF m 5 #[.val (.ref a1), .val (.int p1)] [])
  have bk26 : ∀ t, Steps p.tables e below (T24.setTop (mkF m 6 #[.val (.ref a1), .val (.int p1)] [(.int p1)])) t → Steps p.tables e below (T24.setTop (mkF m 5 #[.val (.ref a1), .val (.int p1)] [])) t := fun t k => by
    refine XS.iloadN X24.here hx rfl (hb hby d7_5) rfl ?_
    exact k
  refine WP.st bk26 ?_
  clear bk26
  by_cases hc25 : p1 = (0 : Int32)
  · skip
    have bk27 : ∀ t, Steps p.tables e below (T24.setTop (mkF m 14 #[.val (.ref a1), .val (.int p1)] [])) t → Steps p.tables e below (T24.setTop (mkF m 6 #[.val (.ref a1), .val (.int p1)] [(.int p1)])) t := fun t k => by
      refine XS.ifYes X24.here hx rfl (pc0 := 6) (pc' := 14) rfl (hb hby d7_6) rfl ((if0 _ _).trans (teq hc25).1) (by decide) (by decide) ?_
      exact k
    refine WP.st bk27 ?_
    clear bk27
    subst hG
    obtain ⟨fs, hr, hrun, hended, hW, hsame⟩ := X24.leave (v := none) (fun _ => rfl)
    refine WP.fin ⟨_, _, ?_, hrun, hended, _, _, rfl, ?_, ⟨_, rfl⟩, hW, hsame.mono (by decide) (by decide)⟩
    · exact X24.returnOut hx Bd.returns (hb hby d7_14) hr
    · show Q7 Z a1 p1 u_dropsNames u_nesting u_passedOnDeclarations u_passedOnChars u_documentTypeDeclaration u_bytes u_stretch u_started u_internalGeneralEntity u_internalParameterEntity u_attributeList u_declaringBytes h0 n0 _ T24.heap _
      rw [e24]
      exact ⟨rfl, NF, KP, F_a1_dropsNames, F_a1_nesting, F_a1_passedOnDeclarations, F_a1_passedOnChars, F_a1_documentTypeDeclaration, F_a1_bytes, F_a1_stretch, F_a1_started, F_a1_internalGeneralEntity, F_a1_internalParameterEntity, F_a1_attributeList, (by simpa [hc25] using F_a1_declaringBytes)⟩
  · skip
    have bk28 : ∀ t, Steps p.tables e below (T24.setTop (mkF m 11 #[.val (.ref a1), .val (.int p1)] [(.long (0 : Int64)), (.ref a1)])) t → Steps p.tables e below (T24.setTop (mkF m 6 #[.val (.ref a1), .val (.int p1)] [(.int p1)])) t := fun t k => by
      refine XS.ifNo X24.here hx rfl (hb hby d7_6) rfl ((if0 _ _).trans (feq hc25).1) ?_
      show Steps p.tables e below (T24.setTop (mkF m 9 #[.val (.ref a1), .val (.int p1)] [])) t
      refine XS.aloadN X24.here hx rfl (hb hby d7_9) rfl rfl ?_
      show Steps p.tables e below (T24.setTop (mkF m 10 #[.val (.ref a1), .val (.int p1)] [(.ref a1)])) t
      refine XS.lconst X24.here hx rfl (hb hby d7_10) ?_
      exact k
    refine WP.st bk28 ?_
    clear bk28
    obtain ⟨T29, h29, X29, e29, W29, st29⟩ := putF X24 hx hZ hown (host := "") (Or.inl (hw _ (List.mem_of_getElem? (i := 68) rfl))) Via.refl e24 F_a1_declaringBytes E_a1 (Or.inl (hw _ (List.mem_of_getElem? (i := 69) rfl))) (hw _ (List.mem_of_getElem? (i := 1) rfl)) (ty := .long) (by decide) rfl rfl (g := (mkF m 11 #[.val (.ref a1), .val (.int p1)] [(.long (0 : Int64)), (.ref a1)])) rfl rfl (hb hby d7_11)
    refine WP.st st29 ?_
    clear st29
    replace E_a1 := E_a1.wr W29
    replace F_a1_dropsNames := F_a1_dropsNames.other W29 (Or.inr (slot_ne (Or.inl (hw _ (List.mem_of_getElem? (i := 13) rfl))) (Or.inl (hw _ (List.mem_of_getElem? (i := 69) rfl))) (by decide) (t := .boolean) (t' := .long) (by decide) (by decide)))
    replace F_a1_nesting := F_a1_nesting.other W29 (Or.inr (slot_ne (Or.inl (hw _ (List.mem_of_getElem? (i := 25) rfl))) (Or.inl (hw _ (List.mem_of_getElem? (i := 69) rfl))) (by decide) (t := .int) (t' := .long) (by decide) (by decide)))
    replace F_a1_passedOnDeclarations := F_a1_passedOnDeclarations.other W29 (Or.inr (slot_ne (Or.inl (hw _ (List.mem_of_getElem? (i := 36) rfl))) (Or.inl (hw _ (List.mem_of_getElem? (i := 69) rfl))) (by decide) (t := .long) (t' := .long) (by decide) (by decide)))
    replace F_a1_passedOnChars := F_a1_passedOnChars.other W29 (Or.inr (slot_ne (Or.inl (hw _ (List.mem_of_getElem? (i := 38) rfl))) (Or.inl (hw _ (List.mem_of_getElem? (i := 69) rfl))) (by decide) (t := .long) (t' := .long) (by decide) (by decide)))
    replace F_a1_documentTypeDeclaration := F_a1_documentTypeDeclaration.other W29 (Or.inr (slot_ne (Or.inl (hw _ (List.mem_of_getElem? (i := 50) rfl))) (Or.inl (hw _ (List.mem_of_getElem? (i := 69) rfl))) (by decide) (t := .boolean) (t' := .long) (by decide) (by decide)))
    replace F_a1_bytes := F_a1_bytes.other W29 (Or.inr (slot_ne (Or.inl (hw _ (List.mem_of_getElem? (i := 52) rfl))) (Or.inl (hw _ (List.mem_of_getElem? (i := 69) rfl))) (by decide) (t := .long) (t' := .long) (by decide) (by decide)))
    replace F_a1_stretch := F_a1_stretch.other W29 (Or.inr (slot_ne (Or.inl (hw _ (List.mem_of_getElem? (i := 54) rfl))) (Or.inl (hw _ (List.mem_of_getElem? (i := 69) rfl))) (by decide) (t := .long) (t' := .long) (by decide) (by decide)))
    replace F_a1_started := F_a1_started.other W29 (Or.inr (slot_ne (Or.inl (hw _ (List.mem_of_getElem? (i := 56) rfl))) (Or.inl (hw _ (List.mem_of_getElem? (i := 69) rfl))) (by decide) (t := .boolean) (t' := .long) (by decide) (by decide)))
    replace F_a1_internalGeneralEntity := F_a1_internalGeneralEntity.other W29 (Or.inr (slot_ne (Or.inl (hw _ (List.mem_of_getElem? (i := 58) rfl))) (Or.inl (hw _ (List.mem_of_getElem? (i := 69) rfl))) (by decide) (t := .boolean) (t' := .long) (by decide) (by decide)))
    replace F_a1_internalParameterEntity := F_a1_internalParameterEntity.other W29 (Or.inr (slot_ne (Or.inl (hw _ (List.mem_of_getElem? (i := 60) rfl))) (Or.inl (hw _ (List.mem_of_getElem? (i := 69) rfl))) (by decide) (t := .boolean) (t' := .long) (by decide) (by decide)))
    replace F_a1_attributeList := F_a1_attributeList.other W29 (Or.inr (slot_ne (Or.inl (hw _ (List.mem_of_getElem? (i := 62) rfl))) (Or.inl (hw _ (List.mem_of_getElem? (i := 69) rfl))) (by decide) (t := .boolean) (t' := .long) (by decide) (by decide)))
    replace F_a1_declaringBytes := F_a1_declaringBytes.same W29
    replace Z0 := Nat.le_trans Z0 (Keep.of_wr W29).1
    replace KP := KP.wr W29 (Or.inl (List.mem_of_getElem? (i := 0) rfl))
    replace NF := Fr.snoc X29 NF g_a1
    clear W29
    show WP p.tables e below _ T29 (mkF m 14 #[.val (.ref a1), .val (.int p1)] [])
    subst hG
    obtain ⟨fs, hr, hrun, hended, hW, hsame⟩ := X29.leave (v := none) (fun _ => rfl)
    refine WP.fin ⟨_, _, ?_, hrun, hended, _, _, rfl, ?_, ⟨_, rfl⟩, hW, hsame.mono (by decide) (by decide)⟩
    · exact X29.returnOut hx Bd.returns (hb hby d7_14) hr
    · show Q7 Z a1 p1 u_dropsNames u_nesting u_passedOnDeclarations u_passedOnChars u_documentTypeDeclaration u_bytes u_stretch u_started u_internalGeneralEntity u_internalParameterEntity u_attributeList u_declaringBytes h0 n0 _ T29.heap _
      rw [e29]
      exact ⟨rfl, NF, KP, F_a1_dropsNames, F_a1_nesting, F_a1_passedOnDeclarations, F_a1_passedOnChars, F_a1_documentTypeDeclaration, F_a1_bytes, F_a1_stretch, F_a1_started, F_a1_internalGeneralEntity, F_a1_internalParameterEntity, F_a1_attributeList, (by simpa [hc25] using F_a1_declaringBytes)⟩
theorem ef_8 (m : MethodId) (a1 : Addr) : entryFrame m #[(.ref a1)] 1 = mkF m 0 #[.val (.ref a1)] [] := by first | (simp [entryFrame, mkF, argsToLocals, Value.category]; done) | rfl
theorem d8_0 : decode prog_26_method_21_code 0 = .ok (.aload_n 0, 1) := by decide +kernel
theorem d8_1 : decode prog_26_method_21_code 1 = .ok (.getfield 79, 3) := by decide +kernel
theorem d8_4 : decode prog_26_method_21_code 4 = .ok (.ifCond .eq 16, 3) := by decide +kernel
theorem d8_20 : decode prog_26_method_21_code 20 = .ok (.aload_n 0, 1) := by decide +kernel
theorem d8_21 : decode prog_26_method_21_code 21 = .ok (.lconst 0, 1) := by decide +kernel
theorem d8_22 : decode prog_26_method_21_code 22 = .ok (.putfield 91, 3) := by decide +kernel
theorem d8_25 : decode prog_26_method_21_code 25 = .ok (.aload_n 0, 1) := by decide +kernel
theorem d8_26 : decode prog_26_method_21_code 26 = .ok (.lconst 0, 1) := by decide +kernel
theorem d8_27 : decode prog_26_method_21_code 27 = .ok (.putfield 94, 3) := by decide +kernel
theorem d8_30 : decode prog_26_method_21_code 30 = .ok (.aload_n 0, 1) := by decide +kernel
theorem d8_31 : decode prog_26_method_21_code 31 = .ok (.iconst 0, 1) := by decide +kernel
theorem d8_32 : decode prog_26_method_21_code 32 = .ok (.putfield 22, 3) := by decide +kernel
theorem d8_35 : decode prog_26_method_21_code 35 = .ok (.aload_n 0, 1) := by decide +kernel
theorem d8_36 : decode prog_26_method_21_code 36 = .ok (.iconst 0, 1) := by decide +kernel
theorem d8_37 : decode prog_26_method_21_code 37 = .ok (.putfield 73, 3) := by decide +kernel
theorem d8_40 : decode prog_26_method_21_code 40 = .ok (.aload_n 0, 1) := by decide +kernel
theorem d8_41 : decode prog_26_method_21_code 41 = .ok (.iconst 0, 1) := by decide +kernel
theorem d8_42 : decode prog_26_method_21_code 42 = .ok (.putfield 70, 3) := by decide +kernel
theorem d8_45 : decode prog_26_method_21_code 45 = .ok (.aload_n 0, 1) := by decide +kernel
theorem d8_46 : decode prog_26_method_21_code 46 = .ok (.iconst 0, 1) := by decide +kernel
theorem d8_47 : decode prog_26_method_21_code 47 = .ok (.putfield 76, 3) := by decide +kernel
theorem d8_50 : decode prog_26_method_21_code 50 = .ok (.aload_n 0, 1) := by decide +kernel
theorem d8_51 : decode prog_26_method_21_code 51 = .ok (.iconst 0, 1) := by decide +kernel
theorem d8_52 : decode prog_26_method_21_code 52 = .ok (.putfield 79, 3) := by decide +kernel
theorem d8_55 : decode prog_26_method_21_code 55 = .ok (.return_, 1) := by decide +kernel
def Q8 (Z : State) (a1 : Addr) (u_dropsNames : Int32) (u_nesting : Int32) (u_passedOnDeclarations : Int64) (u_passedOnChars : Int64) (u_documentTypeDeclaration : Int32) (u_bytes : Int64) (u_stretch : Int64) (u_started : Int32) (u_internalGeneralEntity : Int32) (u_internalParameterEntity : Int32) (u_attributeList : Int32) (u_declaringBytes : Int64) (h0 : Heap) (n0 : Nat) (v : Option Value) (h : Heap) (L : List Loc) : Prop := v = none ∧ Fr n0 L ∧ Keep h0 h [a1] ∧ Fld Z h a1 "com/example/skope/skope/xml/Intake" "dropsNames" "Z" (.int u_dropsNames) ∧ Fld Z h a1 "com/example/skope/skope/xml/Intake" "nesting" "I" (.int u_nesting) ∧ Fld Z h a1 "com/example/skope/skope/xml/Intake" "passedOnDeclarations" "J" (.long u_passedOnDeclarations) ∧ Fld Z h a1 "com/example/skope/skope/xml/Intake" "passedOnChars" "J" (.long u_passedOnChars) ∧ Fld Z h a1 "com/example/skope/skope/xml/Intake" "documentTypeDeclaration" "Z" (.int (0 : Int32)) ∧ Fld Z h a1 "com/example/skope/skope/xml/Intake" "bytes" "J" (.long (0 : Int64)) ∧ Fld Z h a1 "com/example/skope/skope/xml/Intake" "stretch" "J" (.long (0 : Int64)) ∧ Fld Z h a1 "com/example/skope/skope/xml/Intake" "started" "Z" (.int (0 : Int32)) ∧ Fld Z h a1 "com/example/skope/skope/xml/Intake" "internalGeneralEntity" "Z" (.int (0 : Int32)) ∧ Fld Z h a1 "com/example/skope/skope/xml/Intake" "internalParameterEntity" "Z" (.int (0 : Int32)) ∧ Fld Z h a1 "com/example/skope/skope/xml/Intake" "attributeList" "Z" (.int (0 : Int32)) ∧ Fld Z h a1 "com/example/skope/skope/xml/Intake" "declaringBytes" "J" (.long u_declaringBytes)
set_option maxRecDepth 65536 in
set_option maxHeartbeats 40000000 in
theorem rm8 (l : Launch) (Z : State) (a0 : Array Value) (hw : ∀ d ∈ tables_1, d.before a0 Z = true) (ws : List Jvm.Cond) (a1 : Addr) (u_dropsNames : Int32) (u_nesting : Int32) (u_passedOnDeclarations : Int64) (u_passedOnChars : Int64) (u_documentTypeDeclaration : Int32) (u_bytes : Int64) (u_stretch : Int64) (u_started : Int32) (u_internalGeneralEntity : Int32) (u_internalParameterEntity : Int32) (u_attributeList : Int32) (u_declaringBytes : Int64) (h0 : Heap) (n0 : Nat) (Z0 : n0 ≤ h0.size) (E_a1 : Exa Z h0 a1 "com/example/skope/skope/xml/Intake") (g_a1 : n0 ≤ a1) (F_a1_dropsNames : Fld Z h0 a1 "com/example/skope/skope/xml/Intake" "dropsNames" "Z" (.int u_dropsNames)) (F_a1_nesting : Fld Z h0 a1 "com/example/skope/skope/xml/Intake" "nesting" "I" (.int u_nesting)) (F_a1_passedOnDeclarations : Fld Z h0 a1 "com/example/skope/skope/xml/Intake" "passedOnDeclarations" "J" (.long u_passedOnDeclarations)) (F_a1_passedOnChars : Fld Z h0 a1 "com/example/skope/skope/xml/Intake" "passedOnChars" "J" (.long u_passedOnChars)) (F_a1_documentTypeDeclaration : Fld Z h0 a1 "com/example/skope/skope/xml/Intake" "documentTypeDeclaration" "Z" (.int u_documentTypeDeclaration)) (F_a1_bytes : Fld Z h0 a1 "com/example/skope/skope/xml/Intake" "bytes" "J" (.long u_bytes)) (F_a1_stretch : Fld Z h0 a1 "com/example/skope/skope/xml/Intake" "stretch" "J" (.long u_stretch)) (F_a1_started : Fld Z h0 a1 "com/example/skope/skope/xml/Intake" "started" "Z" (.int u_started)) (F_a1_internalGeneralEntity : Fld Z h0 a1 "com/example/skope/skope/xml/Intake" "internalGeneralEntity" "Z" (.int u_internalGeneralEntity)) (F_a1_internalParameterEntity : Fld Z h0 a1 "com/example/skope/skope/xml/Intake" "internalParameterEntity" "Z" (.int u_internalParameterEntity)) (F_a1_attributeList : Fld Z h0 a1 "com/example/skope/skope/xml/Intake" "attributeList" "Z" (.int u_attributeList)) (F_a1_declaringBytes : Fld Z h0 a1 "com/example/skope/skope/xml/Intake" "declaringBytes" "J" (.long u_declaringBytes)) (hd : u_documentTypeDeclaration = (0 : Int32)) :
    MetFree l (⟨"com/example/skope/skope/xml/Intake", "clear", "()V"⟩ : MethodName) (head1 (Jvm.Cond.code (⟨"com/example/skope/skope/xml/Intake", "clear", "()V"⟩ : MethodName) prog_26_method_21_code 1 none :: ws) ({ frames := 0, cells := 0, slots := 0, locals := 0 } : Room)) (fun a U => a = #[(.ref a1)] ∧ Z.Warmed39 U.vm ∧ U.heap = h0) (fun _ _ _ _ _ => True) (fun _ U o U' => ∃ v L, o = .returned v ∧ Q8 Z a1 u_dropsNames u_nesting u_passedOnDeclarations u_passedOnChars u_documentTypeDeclaration u_bytes u_stretch u_started u_internalGeneralEntity u_internalParameterEntity u_attributeList u_declaringBytes h0 n0 v U'.heap L ∧ FrameEnd U o U' L ({ frames := 0, cells := 0, slots := 0, locals := 0 } : Room).cells ({ frames := 0, cells := 0, slots := 0, locals := 0 } : Room).slots) := by
  refine MetFree.of_bodySF (plainFor_of_name pn_0) hisR ?_
  intro p e s m args below meth c s₁ Bd hml0 hP hK
  obtain ⟨rfl, hZ, hh⟩ := hP
  have hx := Bd.exec
  have hby := Bd.bytes
  have hml : c.maxLocals = 1 := hml0
  have hown : s.vm.findClass "com/example/skope/skope/xml/Intake" = some m.cls := findClass_of_methodNamed Bd.named
  have hnm := (name_of_methodNamed Bd.named Bd.method).1
  have X0 : Stand p l e ({ frames := 0, cells := 0, slots := 0, locals := 0 } : Room) s m #[(.ref a1)] below meth c s₁ [] 0 0 := Stand.of_body Bd
  have e0 : s₁.heap = h0 := by rw [← hh, Bd.state]; rfl
  have NF := Fr.nil n0
  have KP : Keep h0 h0 [a1] := Keep.refl h0 _
  refine WP.go ?_
  refine WP.cast (ef_8 m a1) ?_
  refine WP.name ?_
  intro G hG
  have bk30 : ∀ t, Steps p.tables e below (s₁.setTop (mkF m 1 #[.val (.ref a1)] [(.ref a1)])) t → Steps p.tables e below (s₁.setTop (mkF m 0 #[.val (.ref a1)] [])) t := fun t k => by
    refine XS.aloadN X0.here hx rfl (hb hby d8_0) rfl rfl ?_
    exact k
  refine WP.st bk30 ?_
  clear bk30
  obtain ⟨T31, X31, e31, st31⟩ := getF X0 hx hZ hown (host := "") (Or.inl (hw _ (List.mem_of_getElem? (i := 49) rfl))) Via.refl e0 F_a1_documentTypeDeclaration (g := (mkF m 1 #[.val (.ref a1)] [(.ref a1)])) rfl rfl (hb hby d8_1)
  refine WP.st st31 ?_
  clear st31
  show WP p.tables e below _ T31 (mkF m 4 #[.val (.ref a1)] [(.int u_documentTypeDeclaration)])
  have bk32 : ∀ t, Steps p.tables e below (T31.setTop (mkF m 22 #[.val (.ref a1)] [(.long (0 : Int64)), (.ref a1)])) t → Steps p.tables e below (T31.setTop (mkF m 4 #[.val (.ref a1)] [(.int u_documentTypeDeclaration)])) t := fun t k => by
    refine XS.ifYes X31.here hx rfl (pc0 := 4) (pc' := 20) rfl (hb hby d8_4) rfl ((if0 _ _).trans (teq hd).1) (by decide) (by decide) ?_
    show Steps p.tables e below (T31.setTop (mkF m 20 #[.val (.ref a1)] [])) t
    refine XS.aloadN X31.here hx rfl (hb hby d8_20) rfl rfl ?_
    show Steps p.tables e below (T31.setTop (mkF m 21 #[.val (.ref a1)] [(.ref a1)])) t
    refine XS.lconst X31.here hx rfl (hb hby d8_21) ?_
    exact k
  refine WP.st bk32 ?_
  clear bk32
  obtain ⟨T33, h33, X33, e33, W33, st33⟩ := putF X31 hx hZ hown (host := "") (Or.inl (hw _ (List.mem_of_getElem? (i := 51) rfl))) Via.refl e31 F_a1_bytes E_a1 (Or.inl (hw _ (List.mem_of_getElem? (i := 52) rfl))) (hw _ (List.mem_of_getElem? (i := 1) rfl)) (ty := .long) (by decide) rfl rfl (g := (mkF m 22 #[.val (.ref a1)] [(.long (0 : Int64)), (.ref a1)])) rfl rfl (hb hby d8_22)
  refine WP.st st33 ?_
  clear st33
  replace E_a1 := E_a1.wr W33
  replace F_a1_dropsNames := F_a1_dropsNames.other W33 (Or.inr (slot_ne (Or.inl (hw _ (List.mem_of_getElem? (i := 13) rfl))) (Or.inl (hw _ (List.mem_of_getElem? (i := 52) rfl))) (by decide) (t := .boolean) (t' := .long) (by decide) (by decide)))
  replace F_a1_nesting := F_a1_nesting.other W33 (Or.inr (slot_ne (Or.inl (hw _ (List.mem_of_getElem? (i := 25) rfl))) (Or.inl (hw _ (List.mem_of_getElem? (i := 52) rfl))) (by decide) (t := .int) (t' := .long) (by decide) (by decide)))
  replace F_a1_passedOnDeclarations := F_a1_passedOnDeclarations.other W33 (Or.inr (slot_ne (Or.inl (hw _ (List.mem_of_getElem? (i := 36) rfl))) (Or.inl (hw _ (List.mem_of_getElem? (i := 52) rfl))) (by decide) (t := .long) (t' := .long) (by decide) (by decide)))
  replace F_a1_passedOnChars := F_a1_passedOnChars.other W33 (Or.inr (slot_ne (Or.inl (hw _ (List.mem_of_getElem? (i := 38) rfl))) (Or.inl (hw _ (List.mem_of_getElem? (i := 52) rfl))) (by decide) (t := .long) (t' := .long) (by decide) (by decide)))
  replace F_a1_documentTypeDeclaration := F_a1_documentTypeDeclaration.other W33 (Or.inr (slot_ne (Or.inl (hw _ (List.mem_of_getElem? (i := 50) rfl))) (Or.inl (hw _ (List.mem_of_getElem? (i := 52) rfl))) (by decide) (t := .boolean) (t' := .long) (by decide) (by decide)))
  replace F_a1_bytes := F_a1_bytes.same W33
  replace F_a1_stretch := F_a1_stretch.other W33 (Or.inr (slot_ne (Or.inl (hw _ (List.mem_of_getElem? (i := 54) rfl))) (Or.inl (hw _ (List.mem_of_getElem? (i := 52) rfl))) (by decide) (t := .long) (t' := .long) (by decide) (by decide)))
  replace F_a1_started := F_a1_started.other W33 (Or.inr (slot_ne (Or.inl (hw _ (List.mem_of_getElem? (i := 56) rfl))) (Or.inl (hw _ (List.mem_of_getElem? (i := 52) rfl))) (by decide) (t := .boolean) (t' := .long) (by decide) (by decide)))
  replace F_a1_internalGeneralEntity := F_a1_internalGeneralEntity.other W33 (Or.inr (slot_ne (Or.inl (hw _ (List.mem_of_getElem? (i := 58) rfl))) (Or.inl (hw _ (List.mem_of_getElem? (i := 52) rfl))) (by decide) (t := .boolean) (t' := .long) (by decide) (by decide)))
  replace F_a1_internalParameterEntity := F_a1_internalParameterEntity.other W33 (Or.inr (slot_ne (Or.inl (hw _ (List.mem_of_getElem? (i := 60) rfl))) (Or.inl (hw _ (List.mem_of_getElem? (i := 52) rfl))) (by decide) (t := .boolean) (t' := .long) (by decide) (by decide)))
  replace F_a1_attributeList := F_a1_attributeList.other W33 (Or.inr (slot_ne (Or.inl (hw _ (List.mem_of_getElem? (i := 62) rfl))) (Or.inl (hw _ (List.mem_of_getElem? (i := 52) rfl))) (by decide) (t := .boolean) (t' := .long) (by decide) (by decide)))
  replace F_a1_declaringBytes := F_a1_declaringBytes.other W33 (Or.inr (slot_ne (Or.inl (hw _ (List.mem_of_getElem? (i := 69) rfl))) (Or.inl (hw _ (List.mem_of_getElem? (i := 52) rfl))) (by decide) (t := .long) (t' := .long) (by decide) (by decide)))
  replace Z0 := Nat.le_trans Z0 (Keep.of_wr W33).1
  replace KP := KP.wr W33 (Or.inl (List.mem_of_getElem? (i := 0) rfl))
  replace NF := Fr.snoc X33 NF g_a1
  clear W33
  show WP p.tables e below _ T33 (mkF m 25 #[.val (.ref a1)] [])
  have bk34 : ∀ t, Steps p.tables e below (T33.setTop (mkF m 27 #[.val (.ref a1)] [(.long (0 : Int64)), (.ref a1)])) t → Steps p.tables e below (T33.setTop (mkF m 25 #[.val (.ref a1)] [])) t := fun t k => by
    refine XS.aloadN X33.here hx rfl (hb hby d8_25) rfl rfl ?_
    show Steps p.tables e below (T33.setTop (mkF m 26 #[.val (.ref a1)] [(.ref a1)])) t
    refine XS.lconst X33.here hx rfl (hb hby d8_26) ?_
    exact k
  refine WP.st bk34 ?_
  clear bk34
  obtain ⟨T35, h35, X35, e35, W35, st35⟩ := putF X33 hx hZ hown (host := "") (Or.inl (hw _ (List.mem_of_getElem? (i := 53) rfl))) Via.refl e33 F_a1_stretch E_a1 (Or.inl (hw _ (List.mem_of_getElem? (i := 54) rfl))) (hw _ (List.mem_of_getElem? (i := 1) rfl)) (ty := .long) (by decide) rfl rfl (g := (mkF m 27 #[.val (.ref a1)] [(.long (0 : Int64)), (.ref a1)])) rfl rfl (hb hby d8_27)
  refine WP.st st35 ?_
  clear st35
  replace E_a1 := E_a1.wr W35
  replace F_a1_dropsNames := F_a1_dropsNames.other W35 (Or.inr (slot_ne (Or.inl (hw _ (List.mem_of_getElem? (i := 13) rfl))) (Or.inl (hw _ (List.mem_of_getElem? (i := 54) rfl))) (by decide) (t := .boolean) (t' := .long) (by decide) (by decide)))
  replace F_a1_nesting := F_a1_nesting.other W35 (Or.inr (slot_ne (Or.inl (hw _ (List.mem_of_getElem? (i := 25) rfl))) (Or.inl (hw _ (List.mem_of_getElem? (i := 54) rfl))) (by decide) (t := .int) (t' := .long) (by decide) (by decide)))
  replace F_a1_passedOnDeclarations := F_a1_passedOnDeclarations.other W35 (Or.inr (slot_ne (Or.inl (hw _ (List.mem_of_getElem? (i := 36) rfl))) (Or.inl (hw _ (List.mem_of_getElem? (i := 54) rfl))) (by decide) (t := .long) (t' := .long) (by decide) (by decide)))
  replace F_a1_passedOnChars := F_a1_passedOnChars.other W35 (Or.inr (slot_ne (Or.inl (hw _ (List.mem_of_getElem? (i := 38) rfl))) (Or.inl (hw _ (List.mem_of_getElem? (i := 54) rfl))) (by decide) (t := .long) (t' := .long) (by decide) (by decide)))
  replace F_a1_documentTypeDeclaration := F_a1_documentTypeDeclaration.other W35 (Or.inr (slot_ne (Or.inl (hw _ (List.mem_of_getElem? (i := 50) rfl))) (Or.inl (hw _ (List.mem_of_getElem? (i := 54) rfl))) (by decide) (t := .boolean) (t' := .long) (by decide) (by decide)))
  replace F_a1_bytes := F_a1_bytes.other W35 (Or.inr (slot_ne (Or.inl (hw _ (List.mem_of_getElem? (i := 52) rfl))) (Or.inl (hw _ (List.mem_of_getElem? (i := 54) rfl))) (by decide) (t := .long) (t' := .long) (by decide) (by decide)))
  replace F_a1_stretch := F_a1_stretch.same W35
  replace F_a1_started := F_a1_started.other W35 (Or.inr (slot_ne (Or.inl (hw _ (List.mem_of_getElem? (i := 56) rfl))) (Or.inl (hw _ (List.mem_of_getElem? (i := 54) rfl))) (by decide) (t := .boolean) (t' := .long) (by decide) (by decide)))
  replace F_a1_internalGeneralEntity := F_a1_internalGeneralEntity.other W35 (Or.inr (slot_ne (Or.inl (hw _ (List.mem_of_getElem? (i := 58) rfl))) (Or.inl (hw _ (List.mem_of_getElem? (i := 54) rfl))) (by decide) (t := .boolean) (t' := .long) (by decide) (by decide)))
  replace F_a1_internalParameterEntity := F_a1_internalParameterEntity.other W35 (Or.inr (slot_ne (Or.inl (hw _ (List.mem_of_getElem? (i := 60) rfl))) (Or.inl (hw _ (List.mem_of_getElem? (i := 54) rfl))) (by decide) (t := .boolean) (t' := .long) (by decide) (by decide)))
  replace F_a1_attributeList := F_a1_attributeList.other W35 (Or.inr (slot_ne (Or.inl (hw _ (List.mem_of_getElem? (i := 62) rfl))) (Or.inl (hw _ (List.mem_of_getElem? (i := 54) rfl))) (by decide) (t := .boolean) (t' := .long) (by decide) (by decide)))
  replace F_a1_declaringBytes := F_a1_declaringBytes.other W35 (Or.inr (slot_ne (Or.inl (hw _ (List.mem_of_getElem? (i := 69) rfl))) (Or.inl (hw _ (List.mem_of_getElem? (i := 54) rfl))) (by decide) (t := .long) (t' := .long) (by decide) (by decide)))
  replace Z0 := Nat.le_trans Z0 (Keep.of_wr W35).1
  replace KP := KP.wr W35 (Or.inl (List.mem_of_getElem? (i := 0) rfl))
  replace NF := Fr.snoc X35 NF g_a1
  clear W35
  show WP p.tables e below _ T35 (mkF m 30 #[.val (.ref a1)] [])
  have bk36 : ∀ t, Steps p.tables e below (T35.setTop (mkF m 32 #[.val (.ref a1)] [(.int (0 : Int32)), (.ref a1)])) t → Steps p.tables e below (T35.setTop (mkF m 30 #[.val (.ref a1)] [])) t := fun t k => by
    refine XS.aloadN X35.here hx rfl (hb hby d8_30) rfl rfl ?_
    show Steps p.tables e below (T35.setTop (mkF m 31 #[.val (.ref a1)] [(.ref a1)])) t
    refine XS.iconst X35.here hx rfl (hb hby d8_31) ?_
    exact k
  refine WP.st bk36 ?_
  clear bk36
  obtain ⟨T37, h37, X37, e37, W37, st37⟩ := putFN X35 hx hZ hown (hw _ (List.mem_of_getElem? (i := 55) rfl)) Via.refl e35 F_a1_started E_a1 (Or.inl (hw _ (List.mem_of_getElem? (i := 56) rfl))) (hw _ (List.mem_of_getElem? (i := 1) rfl)) (ty := .boolean) (v := (.int (0 : Int32))) (v' := (.int (0 : Int32))) (by decide) rfl (by decide) (g := (mkF m 32 #[.val (.ref a1)] [(.int (0 : Int32)), (.ref a1)])) rfl rfl (hb hby d8_32)
  refine WP.st st37 ?_
  clear st37
  replace E_a1 := E_a1.wr W37
  replace F_a1_dropsNames := F_a1_dropsNames.other W37 (Or.inr (slot_ne (Or.inl (hw _ (List.mem_of_getElem? (i := 13) rfl))) (Or.inl (hw _ (List.mem_of_getElem? (i := 56) rfl))) (by decide) (t := .boolean) (t' := .boolean) (by decide) (by decide)))
  replace F_a1_nesting := F_a1_nesting.other W37 (Or.inr (slot_ne (Or.inl (hw _ (List.mem_of_getElem? (i := 25) rfl))) (Or.inl (hw _ (List.mem_of_getElem? (i := 56) rfl))) (by decide) (t := .int) (t' := .boolean) (by decide) (by decide)))
  replace F_a1_passedOnDeclarations := F_a1_passedOnDeclarations.other W37 (Or.inr (slot_ne (Or.inl (hw _ (List.mem_of_getElem? (i := 36) rfl))) (Or.inl (hw _ (List.mem_of_getElem? (i := 56) rfl))) (by decide) (t := .long) (t' := .boolean) (by decide) (by decide)))
  replace F_a1_passedOnChars := F_a1_passedOnChars.other W37 (Or.inr (slot_ne (Or.inl (hw _ (List.mem_of_getElem? (i := 38) rfl))) (Or.inl (hw _ (List.mem_of_getElem? (i := 56) rfl))) (by decide) (t := .long) (t' := .boolean) (by decide) (by decide)))
  replace F_a1_documentTypeDeclaration := F_a1_documentTypeDeclaration.other W37 (Or.inr (slot_ne (Or.inl (hw _ (List.mem_of_getElem? (i := 50) rfl))) (Or.inl (hw _ (List.mem_of_getElem? (i := 56) rfl))) (by decide) (t := .boolean) (t' := .boolean) (by decide) (by decide)))
  replace F_a1_bytes := F_a1_bytes.other W37 (Or.inr (slot_ne (Or.inl (hw _ (List.mem_of_getElem? (i := 52) rfl))) (Or.inl (hw _ (List.mem_of_getElem? (i := 56) rfl))) (by decide) (t := .long) (t' := .boolean) (by decide) (by decide)))
  replace F_a1_stretch := F_a1_stretch.other W37 (Or.inr (slot_ne (Or.inl (hw _ (List.mem_of_getElem? (i := 54) rfl))) (Or.inl (hw _ (List.mem_of_getElem? (i := 56) rfl))) (by decide) (t := .long) (t' := .boolean) (by decide) (by decide)))
  replace F_a1_started := F_a1_started.same W37
  replace F_a1_internalGeneralEntity := F_a1_internalGeneralEntity.other W37 (Or.inr (slot_ne (Or.inl (hw _ (List.mem_of_getElem? (i := 58) rfl))) (Or.inl (hw _ (List.mem_of_getElem? (i := 56) rfl))) (by decide) (t := .boolean) (t' := .boolean) (by decide) (by decide)))
  replace F_a1_internalParameterEntity := F_a1_internalParameterEntity.other W37 (Or.inr (slot_ne (Or.inl (hw _ (List.mem_of_getElem? (i := 60) rfl))) (Or.inl (hw _ (List.mem_of_getElem? (i := 56) rfl))) (by decide) (t := .boolean) (t' := .boolean) (by decide) (by decide)))
  replace F_a1_attributeList := F_a1_attributeList.other W37 (Or.inr (slot_ne (Or.inl (hw _ (List.mem_of_getElem? (i := 62) rfl))) (Or.inl (hw _ (List.mem_of_getElem? (i := 56) rfl))) (by decide) (t := .boolean) (t' := .boolean) (by decide) (by decide)))
  replace F_a1_declaringBytes := F_a1_declaringBytes.other W37 (Or.inr (slot_ne (Or.inl (hw _ (List.mem_of_getElem? (i := 69) rfl))) (Or.inl (hw _ (List.mem_of_getElem? (i := 56) rfl))) (by decide) (t := .long) (t' := .boolean) (by decide) (by decide)))
  replace Z0 := Nat.le_trans Z0 (Keep.of_wr W37).1
  replace KP := KP.wr W37 (Or.inl (List.mem_of_getElem? (i := 0) rfl))
  replace NF := Fr.snoc X37 NF g_a1
  clear W37
  show WP p.tables e below _ T37 (mkF m 35 #[.val (.ref a1)] [])
  have bk38 : ∀ t, Steps p.tables e below (T37.setTop (mkF m 37 #[.val (.ref a1)] [(.int (0 : Int32)), (.ref a1)])) t → Steps p.tables e below (T37.setTop (mkF m 35 #[.val (.ref a1)] [])) t := fun t k => by
    refine XS.aloadN X37.here hx rfl (hb hby d8_35) rfl rfl ?_
    show Steps p.tables e below (T37.setTop (mkF m 36 #[.val (.ref a1)] [(.ref a1)])) t
    refine XS.iconst X37.here hx rfl (hb hby d8_36) ?_
    exact k
  refine WP.st bk38 ?_
  clear bk38
  obtain ⟨T39, h39, X39, e39, W39, st39⟩ := putFN X37 hx hZ hown (hw _ (List.mem_of_getElem? (i := 57) rfl)) Via.refl e37 F_a1_internalGeneralEntity E_a1 (Or.inl (hw _ (List.mem_of_getElem? (i := 58) rfl))) (hw _ (List.mem_of_getElem? (i := 1) rfl)) (ty := .boolean) (v := (.int (0 : Int32))) (v' := (.int (0 : Int32))) (by decide) rfl (by decide) (g := (mkF m 37 #[.val (.ref a1)] [(.int (0 : Int32)), (.ref a1)])) rfl rfl (hb hby d8_37)
  refine WP.st st39 ?_
  clear st39
  replace E_a1 := E_a1.wr W39
  replace F_a1_dropsNames := F_a1_dropsNames.other W39 (Or.inr (slot_ne (Or.inl (hw _ (List.mem_of_getElem? (i := 13) rfl))) (Or.inl (hw _ (List.mem_of_getElem? (i := 58) rfl))) (by decide) (t := .boolean) (t' := .boolean) (by decide) (by decide)))
  replace F_a1_nesting := F_a1_nesting.other W39 (Or.inr (slot_ne (Or.inl (hw _ (List.mem_of_getElem? (i := 25) rfl))) (Or.inl (hw _ (List.mem_of_getElem? (i := 58) rfl))) (by decide) (t := .int) (t' := .boolean) (by decide) (by decide)))
  replace F_a1_passedOnDeclarations := F_a1_passedOnDeclarations.other W39 (Or.inr (slot_ne (Or.inl (hw _ (List.mem_of_getElem? (i := 36) rfl))) (Or.inl (hw _ (List.mem_of_getElem? (i := 58) rfl))) (by decide) (t := .long) (t' := .boolean) (by decide) (by decide)))
  replace F_a1_passedOnChars := F_a1_passedOnChars.other W39 (Or.inr (slot_ne (Or.inl (hw _ (List.mem_of_getElem? (i := 38) rfl))) (Or.inl (hw _ (List.mem_of_getElem? (i := 58) rfl))) (by decide) (t := .long) (t' := .boolean) (by decide) (by decide)))
  replace F_a1_documentTypeDeclaration := F_a1_documentTypeDeclaration.other W39 (Or.inr (slot_ne (Or.inl (hw _ (List.mem_of_getElem? (i := 50) rfl))) (Or.inl (hw _ (List.mem_of_getElem? (i := 58) rfl))) (by decide) (t := .boolean) (t' := .boolean) (by decide) (by decide)))
  replace F_a1_bytes := F_a1_bytes.other W39 (Or.inr (slot_ne (Or.inl (hw _ (List.mem_of_getElem? (i := 52) rfl))) (Or.inl (hw _ (List.mem_of_getElem? (i := 58) rfl))) (by decide) (t := .long) (t' := .boolean) (by decide) (by decide)))
  replace F_a1_stretch := F_a1_stretch.other W39 (Or.inr (slot_ne (Or.inl (hw _ (List.mem_of_getElem? (i := 54) rfl))) (Or.inl (hw _ (List.mem_of_getElem? (i := 58) rfl))) (by decide) (t := .long) (t' := .boolean) (by decide) (by decide)))
  replace F_a1_started := F_a1_started.other W39 (Or.inr (slot_ne (Or.inl (hw _ (List.mem_of_getElem? (i := 56) rfl))) (Or.inl (hw _ (List.mem_of_getElem? (i := 58) rfl))) (by decide) (t := .boolean) (t' := .boolean) (by decide) (by decide)))
  replace F_a1_internalGeneralEntity := F_a1_internalGeneralEntity.same W39
  replace F_a1_internalParameterEntity := F_a1_internalParameterEntity.other W39 (Or.inr (slot_ne (Or.inl (hw _ (List.mem_of_getElem? (i := 60) rfl))) (Or.inl (hw _ (List.mem_of_getElem? (i := 58) rfl))) (by decide) (t := .boolean) (t' := .boolean) (by decide) (by decide)))
  replace F_a1_attributeList := F_a1_attributeList.other W39 (Or.inr (slot_ne (Or.inl (hw _ (List.mem_of_getElem? (i := 62) rfl))) (Or.inl (hw _ (List.mem_of_getElem? (i := 58) rfl))) (by decide) (t := .boolean) (t' := .boolean) (by decide) (by decide)))
  replace F_a1_declaringBytes := F_a1_declaringBytes.other W39 (Or.inr (slot_ne (Or.inl (hw _ (List.mem_of_getElem? (i := 69) rfl))) (Or.inl (hw _ (List.mem_of_getElem? (i := 58) rfl))) (by decide) (t := .long) (t' := .boolean) (by decide) (by decide)))
  replace Z0 := Nat.le_trans Z0 (Keep.of_wr W39).1
  replace KP := KP.wr W39 (Or.inl (List.mem_of_getElem? (i := 0) rfl))
  replace NF := Fr.snoc X39 NF g_a1
  clear W39
  show WP p.tables e below _ T39 (mkF m 40 #[.val (.ref a1)] [])
  have bk40 : ∀ t, Steps p.tables e below (T39.setTop (mkF m 42 #[.val (.ref a1)] [(.int (0 : Int32)), (.ref a1)])) t → Steps p.tables e below (T39.setTop (mkF m 40 #[.val (.ref a1)] [])) t := fun t k => by
    refine XS.aloadN X39.here hx rfl (hb hby d8_40) rfl rfl ?_
    show Steps p.tables e below (T39.setTop (mkF m 41 #[.val (.ref a1)] [(.ref a1)])) t
    refine XS.iconst X39.here hx rfl (hb hby d8_41) ?_
    exact k
  refine WP.st bk40 ?_
  clear bk40
  obtain ⟨T41, h41, X41, e41, W41, st41⟩ := putFN X39 hx hZ hown (hw _ (List.mem_of_getElem? (i := 59) rfl)) Via.refl e39 F_a1_internalParameterEntity E_a1 (Or.inl (hw _ (List.mem_of_getElem? (i := 60) rfl))) (hw _ (List.mem_of_getElem? (i := 1) rfl)) (ty := .boolean) (v := (.int (0 : Int32))) (v' := (.int (0 : Int32))) (by decide) rfl (by decide) (g := (mkF m 42 #[.val (.ref a1)] [(.int (0 : Int32)), (.ref a1)])) rfl rfl (hb hby d8_42)
  refine WP.st st41 ?_
  clear st41
  replace E_a1 := E_a1.wr W41
  replace F_a1_dropsNames := F_a1_dropsNames.other W41 (Or.inr (slot_ne (Or.inl (hw _ (List.mem_of_getElem? (i := 13) rfl))) (Or.inl (hw _ (List.mem_of_getElem? (i := 60) rfl))) (by decide) (t := .boolean) (t' := .boolean) (by decide) (by decide)))
  replace F_a1_nesting := F_a1_nesting.other W41 (Or.inr (slot_ne (Or.inl (hw _ (List.mem_of_getElem? (i := 25) rfl))) (Or.inl (hw _ (List.mem_of_getElem? (i := 60) rfl))) (by decide) (t := .int) (t' := .boolean) (by decide) (by decide)))
  replace F_a1_passedOnDeclarations := F_a1_passedOnDeclarations.other W41 (Or.inr (slot_ne (Or.inl (hw _ (List.mem_of_getElem? (i := 36) rfl))) (Or.inl (hw _ (List.mem_of_getElem? (i := 60) rfl))) (by decide) (t := .long) (t' := .boolean) (by decide) (by decide)))
  replace F_a1_passedOnChars := F_a1_passedOnChars.other W41 (Or.inr (slot_ne (Or.inl (hw _ (List.mem_of_getElem? (i := 38) rfl))) (Or.inl (hw _ (List.mem_of_getElem? (i := 60) rfl))) (by decide) (t := .long) (t' := .boolean) (by decide) (by decide)))
  replace F_a1_documentTypeDeclaration := F_a1_documentTypeDeclaration.other W41 (Or.inr (slot_ne (Or.inl (hw _ (List.mem_of_getElem? (i := 50) rfl))) (Or.inl (hw _ (List.mem_of_getElem? (i := 60) rfl))) (by decide) (t := .boolean) (t' := .boolean) (by decide) (by decide)))
  replace F_a1_bytes := F_a1_bytes.other W41 (Or.inr (slot_ne (Or.inl (hw _ (List.mem_of_getElem? (i := 52) rfl))) (Or.inl (hw _ (List.mem_of_getElem? (i := 60) rfl))) (by decide) (t := .long) (t' := .boolean) (by decide) (by decide)))
  replace F_a1_stretch := F_a1_stretch.other W41 (Or.inr (slot_ne (Or.inl (hw _ (List.mem_of_getElem? (i := 54) rfl))) (Or.inl (hw _ (List.mem_of_getElem? (i := 60) rfl))) (by decide) (t := .long) (t' := .boolean) (by decide) (by decide)))
  replace F_a1_started := F_a1_started.other W41 (Or.inr (slot_ne (Or.inl (hw _ (List.mem_of_getElem? (i := 56) rfl))) (Or.inl (hw _ (List.mem_of_getElem? (i := 60) rfl))) (by decide) (t := .boolean) (t' := .boolean) (by decide) (by decide)))
  replace F_a1_internalGeneralEntity := F_a1_internalGeneralEntity.other W41 (Or.inr (slot_ne (Or.inl (hw _ (List.mem_of_getElem? (i := 58) rfl))) (Or.inl (hw _ (List.mem_of_getElem? (i := 60) rfl))) (by decide) (t := .boolean) (t' := .boolean) (by decide) (by decide)))
  replace F_a1_internalParameterEntity := F_a1_internalParameterEntity.same W41
  replace F_a1_attributeList := F_a1_attributeList.other W41 (Or.inr (slot_ne (Or.inl (hw _ (List.mem_of_getElem? (i := 62) rfl))) (Or.inl (hw _ (List.mem_of_getElem? (i := 60) rfl))) (by decide) (t := .boolean) (t' := .boolean) (by decide) (by decide)))
  replace F_a1_declaringBytes := F_a1_declaringBytes.other W41 (Or.inr (slot_ne (Or.inl (hw _ (List.mem_of_getElem? (i := 69) rfl))) (Or.inl (hw _ (List.mem_of_getElem? (i := 60) rfl))) (by decide) (t := .long) (t' := .boolean) (by decide) (by decide)))
  replace Z0 := Nat.le_trans Z0 (Keep.of_wr W41).1
  replace KP := KP.wr W41 (Or.inl (List.mem_of_getElem? (i := 0) rfl))
  replace NF := Fr.snoc X41 NF g_a1
  clear W41
  show WP p.tables e below _ T41 (mkF m 45 #[.val (.ref a1)] [])
  have bk42 : ∀ t, Steps p.tables e below (T41.setTop (mkF m 47 #[.val (.ref a1)] [(.int (0 : Int32)), (.ref a1)])) t → Steps p.tables e below (T41.setTop (mkF m 45 #[.val (.ref a1)] [])) t := fun t k => by
    refine XS.aloadN X41.here hx rfl (hb hby d8_45) rfl rfl ?_
    show Steps p.tables e below (T41.setTop (mkF m 46 #[.val (.ref a1)] [(.ref a1)])) t
    refine XS.iconst X41.here hx rfl (hb hby d8_46) ?_
    exact k
  refine WP.st bk42 ?_
  clear bk42
  obtain ⟨T43, h43, X43, e43, W43, st43⟩ := putFN X41 hx hZ hown (hw _ (List.mem_of_getElem? (i := 61) rfl)) Via.refl e41 F_a1_attributeList E_a1 (Or.inl (hw _ (List.mem_of_getElem? (i := 62) rfl))) (hw _ (List.mem_of_getElem? (i := 1) rfl)) (ty := .boolean) (v := (.int (0 : Int32))) (v' := (.int (0 : Int32))) (by decide) rfl (by decide) (g := (mkF m 47 #[.val (.ref a1)] [(.int (0 : Int32)), (.ref a1)])) rfl rfl (hb hby d8_47)
  refine WP.st st43 ?_
  clear st43
  replace E_a1 := E_a1.wr W43
  replace F_a1_dropsNames := F_a1_dropsNames.other W43 (Or.inr (slot_ne (Or.inl (hw _ (List.mem_of_getElem? (i := 13) rfl))) (Or.inl (hw _ (List.mem_of_getElem? (i := 62) rfl))) (by decide) (t := .boolean) (t' := .boolean) (by decide) (by decide)))
  replace F_a1_nesting := F_a1_nesting.other W43 (Or.inr (slot_ne (Or.inl (hw _ (List.mem_of_getElem? (i := 25) rfl))) (Or.inl (hw _ (List.mem_of_getElem? (i := 62) rfl))) (by decide) (t := .int) (t' := .boolean) (by decide) (by decide)))
  replace F_a1_passedOnDeclarations := F_a1_passedOnDeclarations.other W43 (Or.inr (slot_ne (Or.inl (hw _ (List.mem_of_getElem? (i := 36) rfl))) (Or.inl (hw _ (List.mem_of_getElem? (i := 62) rfl))) (by decide) (t := .long) (t' := .boolean) (by decide) (by decide)))
  replace F_a1_passedOnChars := F_a1_passedOnChars.other W43 (Or.inr (slot_ne (Or.inl (hw _ (List.mem_of_getElem? (i := 38) rfl))) (Or.inl (hw _ (List.mem_of_getElem? (i := 62) rfl))) (by decide) (t := .long) (t' := .boolean) (by decide) (by decide)))
  replace F_a1_documentTypeDeclaration := F_a1_documentTypeDeclaration.other W43 (Or.inr (slot_ne (Or.inl (hw _ (List.mem_of_getElem? (i := 50) rfl))) (Or.inl (hw _ (List.mem_of_getElem? (i := 62) rfl))) (by decide) (t := .boolean) (t' := .boolean) (by decide) (by decide)))
  replace F_a1_bytes := F_a1_bytes.other W43 (Or.inr (slot_ne (Or.inl (hw _ (List.mem_of_getElem? (i := 52) rfl))) (Or.inl (hw _ (List.mem_of_getElem? (i := 62) rfl))) (by decide) (t := .long) (t' := .boolean) (by decide) (by decide)))
  replace F_a1_stretch := F_a1_stretch.other W43 (Or.inr (slot_ne (Or.inl (hw _ (List.mem_of_getElem? (i := 54) rfl))) (Or.inl (hw _ (List.mem_of_getElem? (i := 62) rfl))) (by decide) (t := .long) (t' := .boolean) (by decide) (by decide)))
  replace F_a1_started := F_a1_started.other W43 (Or.inr (slot_ne (Or.inl (hw _ (List.mem_of_getElem? (i := 56) rfl))) (Or.inl (hw _ (List.mem_of_getElem? (i := 62) rfl))) (by decide) (t := .boolean) (t' := .boolean) (by decide) (by decide)))
  replace F_a1_internalGeneralEntity := F_a1_internalGeneralEntity.other W43 (Or.inr (slot_ne (Or.inl (hw _ (List.mem_of_getElem? (i := 58) rfl))) (Or.inl (hw _ (List.mem_of_getElem? (i := 62) rfl))) (by decide) (t := .boolean) (t' := .boolean) (by decide) (by decide)))
  replace F_a1_internalParameterEntity := F_a1_internalParameterEntity.other W43 (Or.inr (slot_ne (Or.inl (hw _ (List.mem_of_getElem? (i := 60) rfl))) (Or.inl (hw _ (List.mem_of_getElem? (i := 62) rfl))) (by decide) (t := .boolean) (t' := .boolean) (by decide) (by decide)))
  replace F_a1_attributeList := F_a1_attributeList.same W43
  replace F_a1_declaringBytes := F_a1_declaringBytes.other W43 (Or.inr (slot_ne (Or.inl (hw _ (List.mem_of_getElem? (i := 69) rfl))) (Or.inl (hw _ (List.mem_of_getElem? (i := 62) rfl))) (by decide) (t := .long) (t' := .boolean) (by decide) (by decide)))
  replace Z0 := Nat.le_trans Z0 (Keep.of_wr W43).1
  replace KP := KP.wr W43 (Or.inl (List.mem_of_getElem? (i := 0) rfl))
  replace NF := Fr.snoc X43 NF g_a1
  clear W43
  show WP p.tables e below _ T43 (mkF m 50 #[.val (.ref a1)] [])
  have bk44 : ∀ t, Steps p.tables e below (T43.setTop (mkF m 52 #[.val (.ref a1)] [(.int (0 : Int32)), (.ref a1)])) t → Steps p.tables e below (T43.setTop (mkF m 50 #[.val (.ref a1)] [])) t := fun t k => by
    refine XS.aloadN X43.here hx rfl (hb hby d8_50) rfl rfl ?_
    show Steps p.tables e below (T43.setTop (mkF m 51 #[.val (.ref a1)] [(.ref a1)])) t
    refine XS.iconst X43.here hx rfl (hb hby d8_51) ?_
    exact k
  refine WP.st bk44 ?_
  clear bk44
  obtain ⟨T45, h45, X45, e45, W45, st45⟩ := putFN X43 hx hZ hown (hw _ (List.mem_of_getElem? (i := 49) rfl)) Via.refl e43 F_a1_documentTypeDeclaration E_a1 (Or.inl (hw _ (List.mem_of_getElem? (i := 50) rfl))) (hw _ (List.mem_of_getElem? (i := 1) rfl)) (ty := .boolean) (v := (.int (0 : Int32))) (v' := (.int (0 : Int32))) (by decide) rfl (by decide) (g := (mkF m 52 #[.val (.ref a1)] [(.int (0 : Int32)), (.ref a1)])) rfl rfl (hb hby d8_52)
  refine WP.st st45 ?_
  clear st45
  replace E_a1 := E_a1.wr W45
  replace F_a1_dropsNames := F_a1_dropsNames.other W45 (Or.inr (slot_ne (Or.inl (hw _ (List.mem_of_getElem? (i := 13) rfl))) (Or.inl (hw _ (List.mem_of_getElem? (i := 50) rfl))) (by decide) (t := .boolean) (t' := .boolean) (by decide) (by decide)))
  replace F_a1_nesting := F_a1_nesting.other W45 (Or.inr (slot_ne (Or.inl (hw _ (List.mem_of_getElem? (i := 25) rfl))) (Or.inl (hw _ (List.mem_of_getElem? (i := 50) rfl))) (by decide) (t := .int) (t' := .boolean) (by decide) (by decide)))
  replace F_a1_passedOnDeclarations := F_a1_passedOnDeclarations.other W45 (Or.inr (slot_ne (Or.inl (hw _ (List.mem_of_getElem? (i := 36) rfl))) (Or.inl (hw _ (List.mem_of_getElem? (i := 50) rfl))) (by decide) (t := .long) (t' := .boolean) (by decide) (by decide)))
  replace F_a1_passedOnChars := F_a1_passedOnChars.other W45 (Or.inr (slot_ne (Or.inl (hw _ (List.mem_of_getElem? (i := 38) rfl))) (Or.inl (hw _ (List.mem_of_getElem? (i := 50) rfl))) (by decide) (t := .long) (t' := .boolean) (by decide) (by decide)))
  replace F_a1_documentTypeDeclaration := F_a1_documentTypeDeclaration.same W45
  replace F_a1_bytes := F_a1_bytes.other W45 (Or.inr (slot_ne (Or.inl (hw _ (List.mem_of_getElem? (i := 52) rfl))) (Or.inl (hw _ (List.mem_of_getElem? (i := 50) rfl))) (by decide) (t := .long) (t' := .boolean) (by decide) (by decide)))
  replace F_a1_stretch := F_a1_stretch.other W45 (Or.inr (slot_ne (Or.inl (hw _ (List.mem_of_getElem? (i := 54) rfl))) (Or.inl (hw _ (List.mem_of_getElem? (i := 50) rfl))) (by decide) (t := .long) (t' := .boolean) (by decide) (by decide)))
  replace F_a1_started := F_a1_started.other W45 (Or.inr (slot_ne (Or.inl (hw _ (List.mem_of_getElem? (i := 56) rfl))) (Or.inl (hw _ (List.mem_of_getElem? (i := 50) rfl))) (by decide) (t := .boolean) (t' := .boolean) (by decide) (by decide)))
  replace F_a1_internalGeneralEntity := F_a1_internalGeneralEntity.other W45 (Or.inr (slot_ne (Or.inl (hw _ (List.mem_of_getElem? (i := 58) rfl))) (Or.inl (hw _ (List.mem_of_getElem? (i := 50) rfl))) (by decide) (t := .boolean) (t' := .boolean) (by decide) (by decide)))
  replace F_a1_internalParameterEntity := F_a1_internalParameterEntity.other W45 (Or.inr (slot_ne (Or.inl (hw _ (List.mem_of_getElem? (i := 60) rfl))) (Or.inl (hw _ (List.mem_of_getElem? (i := 50) rfl))) (by decide) (t := .boolean) (t' := .boolean) (by decide) (by decide)))
  replace F_a1_attributeList := F_a1_attributeList.other W45 (Or.inr (slot_ne (Or.inl (hw _ (List.mem_of_getElem? (i := 62) rfl))) (Or.inl (hw _ (List.mem_of_getElem? (i := 50) rfl))) (by decide) (t := .boolean) (t' := .boolean) (by decide) (by decide)))
  replace F_a1_declaringBytes := F_a1_declaringBytes.other W45 (Or.inr (slot_ne (Or.inl (hw _ (List.mem_of_getElem? (i := 69) rfl))) (Or.inl (hw _ (List.mem_of_getElem? (i := 50) rfl))) (by decide) (t := .long) (t' := .boolean) (by decide) (by decide)))
  replace Z0 := Nat.le_trans Z0 (Keep.of_wr W45).1
  replace KP := KP.wr W45 (Or.inl (List.mem_of_getElem? (i := 0) rfl))
  replace NF := Fr.snoc X45 NF g_a1
  clear W45
  show WP p.tables e below _ T45 (mkF m 55 #[.val (.ref a1)] [])
  subst hG
  obtain ⟨fs, hr, hrun, hended, hW, hsame⟩ := X45.leave (v := none) (fun _ => rfl)
  refine WP.fin ⟨_, _, ?_, hrun, hended, _, _, rfl, ?_, ⟨_, rfl⟩, hW, hsame.mono (by decide) (by decide)⟩
  · exact X45.returnOut hx Bd.returns (hb hby d8_55) hr
  · show Q8 Z a1 u_dropsNames u_nesting u_passedOnDeclarations u_passedOnChars u_documentTypeDeclaration u_bytes u_stretch u_started u_internalGeneralEntity u_internalParameterEntity u_attributeList u_declaringBytes h0 n0 _ T45.heap _
    rw [e45]
    exact ⟨rfl, NF, KP, F_a1_dropsNames, F_a1_nesting, F_a1_passedOnDeclarations, F_a1_passedOnChars, F_a1_documentTypeDeclaration, F_a1_bytes, F_a1_stretch, F_a1_started, F_a1_internalGeneralEntity, F_a1_internalParameterEntity, F_a1_attributeList, F_a1_declaringBytes⟩
theorem ef_9 (m : MethodId) (a1 : Addr) : entryFrame m #[(.ref a1)] 1 = mkF m 0 #[.val (.ref a1)] [] := by first | (simp [entryFrame, mkF, argsToLocals, Value.category]; done) | rfl
theorem d9_0 : decode prog_26_method_15_code 0 = .ok (.aload_n 0, 1) := by decide +kernel
theorem d9_1 : decode prog_26_method_15_code 1 = .ok (.getfield 82, 3) := by decide +kernel
theorem d9_4 : decode prog_26_method_15_code 4 = .ok (.lreturn, 1) := by decide +kernel
def Q9 (Z : State) (a1 : Addr) (u_declaringBytes : Int64) (h0 : Heap) (n0 : Nat) (v : Option Value) (h : Heap) (L : List Loc) : Prop := v = some (.long u_declaringBytes) ∧ Fr n0 L ∧ h = h0
set_option maxRecDepth 65536 in
set_option maxHeartbeats 40000000 in
theorem rm9 (l : Launch) (Z : State) (a0 : Array Value) (hw : ∀ d ∈ tables_1, d.before a0 Z = true) (ws : List Jvm.Cond) (a1 : Addr) (u_declaringBytes : Int64) (h0 : Heap) (n0 : Nat) (Z0 : n0 ≤ h0.size) (F_a1_declaringBytes : Fld Z h0 a1 "com/example/skope/skope/xml/Intake" "declaringBytes" "J" (.long u_declaringBytes)) :
    MetFree l (⟨"com/example/skope/skope/xml/Intake", "declaringBytes", "()J"⟩ : MethodName) (head1 (Jvm.Cond.code (⟨"com/example/skope/skope/xml/Intake", "declaringBytes", "()J"⟩ : MethodName) prog_26_method_15_code 1 (some .long) :: ws) ({ frames := 0, cells := 0, slots := 0, locals := 0 } : Room)) (fun a U => a = #[(.ref a1)] ∧ Z.Warmed39 U.vm ∧ U.heap = h0) (fun _ _ _ _ _ => True) (fun _ U o U' => ∃ v L, o = .returned v ∧ Q9 Z a1 u_declaringBytes h0 n0 v U'.heap L ∧ FrameEnd U o U' L ({ frames := 0, cells := 0, slots := 0, locals := 0 } : Room).cells ({ frames := 0, cells := 0, slots := 0, locals := 0 } : Room).slots) := by
  refine MetFree.of_bodySF (plainFor_of_name pn_0) hisR ?_
  intro p e s m args below meth c s₁ Bd hml0 hP hK
  obtain ⟨rfl, hZ, hh⟩ := hP
  have hx := Bd.exec
  have hby := Bd.bytes
  have hml : c.maxLocals = 1 := hml0
  have hown : s.vm.findClass "com/example/skope/skope/xml/Intake" = some m.cls := findClass_of_methodNamed Bd.named
  have hnm := (name_of_methodNamed Bd.named Bd.method).1
  have X0 : Stand p l e ({ frames := 0, cells := 0, slots := 0, locals := 0 } : Room) s m #[(.ref a1)] below meth c s₁ [] 0 0 := Stand.of_body Bd
  have e0 : s₁.heap = h0 := by rw [← hh, Bd.state]; rfl
  have NF := Fr.nil n0
  refine WP.go ?_
  refine WP.cast (ef_9 m a1) ?_
  refine WP.name ?_
  intro G hG
  have bk46 : ∀ t, Steps p.tables e below (s₁.setTop (mkF m 1 #[.val (.ref a1)] [(.ref a1)])) t → Steps p.tables e below (s₁.setTop (mkF m 0 #[.val (.ref a1)] [])) t := fun t k => by
    refine XS.aloadN X0.here hx rfl (hb hby d9_0) rfl rfl ?_
    exact k
  refine WP.st bk46 ?_
  clear bk46
  obtain ⟨T47, X47, e47, st47⟩ := getF X0 hx hZ hown (host := "") (Or.inl (hw _ (List.mem_of_getElem? (i := 68) rfl))) Via.refl e0 F_a1_declaringBytes (g := (mkF m 1 #[.val (.ref a1)] [(.ref a1)])) rfl rfl (hb hby d9_1)
  refine WP.st st47 ?_
  clear st47
  show WP p.tables e below _ T47 (mkF m 4 #[.val (.ref a1)] [(.long u_declaringBytes)])
  subst hG
  obtain ⟨fs, hr, hrun, hended, hW, hsame⟩ := X47.leave (v := some (.long u_declaringBytes)) (fun h => by rw [Bd.returns] at h; cases h)
  refine WP.fin ⟨_, _, ?_, hrun, hended, _, _, rfl, ?_, ⟨_, rfl⟩, hW, hsame.mono (by decide) (by decide)⟩
  · exact X47.lreturnOut hx Bd.returns (hb hby d9_4) hr
  · show Q9 Z a1 u_declaringBytes h0 n0 _ T47.heap _
    rw [e47]
    exact ⟨rfl, NF, rfl⟩
theorem ef_10 (m : MethodId) (a1 : Addr) : entryFrame m #[(.ref a1)] 1 = mkF m 0 #[.val (.ref a1)] [] := by first | (simp [entryFrame, mkF, argsToLocals, Value.category]; done) | rfl
theorem d10_0 : decode prog_26_method_10_code 0 = .ok (.aload_n 0, 1) := by decide +kernel
theorem d10_1 : decode prog_26_method_10_code 1 = .ok (.getfield 60, 3) := by decide +kernel
theorem d10_4 : decode prog_26_method_10_code 4 = .ok (.ireturn, 1) := by decide +kernel
def Q10 (Z : State) (a1 : Addr) (u_nesting : Int32) (h0 : Heap) (n0 : Nat) (v : Option Value) (h : Heap) (L : List Loc) : Prop := v = some (.int u_nesting) ∧ Fr n0 L ∧ h = h0
set_option maxRecDepth 65536 in
set_option maxHeartbeats 40000000 in
theorem rm10 (l : Launch) (Z : State) (a0 : Array Value) (hw : ∀ d ∈ tables_1, d.before a0 Z = true) (ws : List Jvm.Cond) (a1 : Addr) (u_nesting : Int32) (h0 : Heap) (n0 : Nat) (Z0 : n0 ≤ h0.size) (F_a1_nesting : Fld Z h0 a1 "com/example/skope/skope/xml/Intake" "nesting" "I" (.int u_nesting)) :
    MetFree l (⟨"com/example/skope/skope/xml/Intake", "nesting", "()I"⟩ : MethodName) (head1 (Jvm.Cond.code (⟨"com/example/skope/skope/xml/Intake", "nesting", "()I"⟩ : MethodName) prog_26_method_10_code 1 (some .int) :: ws) ({ frames := 0, cells := 0, slots := 0, locals := 0 } : Room)) (fun a U => a = #[(.ref a1)] ∧ Z.Warmed39 U.vm ∧ U.heap = h0) (fun _ _ _ _ _ => True) (fun _ U o U' => ∃ v L, o = .returned v ∧ Q10 Z a1 u_nesting h0 n0 v U'.heap L ∧ FrameEnd U o U' L ({ frames := 0, cells := 0, slots := 0, locals := 0 } : Room).cells ({ frames := 0, cells := 0, slots := 0, locals := 0 } : Room).slots) := by
  refine MetFree.of_bodySF (plainFor_of_name pn_0) hisR ?_
  intro p e s m args below meth c s₁ Bd hml0 hP hK
  obtain ⟨rfl, hZ, hh⟩ := hP
  have hx := Bd.exec
  have hby := Bd.bytes
  have hml : c.maxLocals = 1 := hml0
  have hown : s.vm.findClass "com/example/skope/skope/xml/Intake" = some m.cls := findClass_of_methodNamed Bd.named
  have hnm := (name_of_methodNamed Bd.named Bd.method).1
  have X0 : Stand p l e ({ frames := 0, cells := 0, slots := 0, locals := 0 } : Room) s m #[(.ref a1)] below meth c s₁ [] 0 0 := Stand.of_body Bd
  have e0 : s₁.heap = h0 := by rw [← hh, Bd.state]; rfl
  have NF := Fr.nil n0
  refine WP.go ?_
  refine WP.cast (ef_10 m a1) ?_
  refine WP.name ?_
  intro G hG
  have bk48 : ∀ t, Steps p.tables e below (s₁.setTop (mkF m 1 #[.val (.ref a1)] [(.ref a1)])) t → Steps p.tables e below (s₁.setTop (mkF m 0 #[.val (.ref a1)] [])) t := fun t k => by
    refine XS.aloadN X0.here hx rfl (hb hby d10_0) rfl rfl ?_
    exact k
  refine WP.st bk48 ?_
  clear bk48
  obtain ⟨T49, X49, e49, st49⟩ := getF X0 hx hZ hown (host := "") (Or.inl (hw _ (List.mem_of_getElem? (i := 24) rfl))) Via.refl e0 F_a1_nesting (g := (mkF m 1 #[.val (.ref a1)] [(.ref a1)])) rfl rfl (hb hby d10_1)
  refine WP.st st49 ?_
  clear st49
  show WP p.tables e below _ T49 (mkF m 4 #[.val (.ref a1)] [(.int u_nesting)])
  subst hG
  obtain ⟨fs, hr, hrun, hended, hW, hsame⟩ := X49.leave (v := some (.int u_nesting)) (fun h => by rw [Bd.returns] at h; cases h)
  refine WP.fin ⟨_, _, ?_, hrun, hended, _, _, rfl, ?_, ⟨_, rfl⟩, hW, hsame.mono (by decide) (by decide)⟩
  · exact retI X49 hx Bd.returns (hb hby d10_4) hr
  · show Q10 Z a1 u_nesting h0 n0 _ T49.heap _
    rw [e49]
    exact ⟨rfl, NF, rfl⟩
theorem ef_11 (m : MethodId) (a1 : Addr) : entryFrame m #[(.ref a1)] 1 = mkF m 0 #[.val (.ref a1)] [] := by first | (simp [entryFrame, mkF, argsToLocals, Value.category]; done) | rfl
theorem d11_0 : decode prog_26_method_17_code 0 = .ok (.aload_n 0, 1) := by decide +kernel
theorem d11_1 : decode prog_26_method_17_code 1 = .ok (.getfield 85, 3) := by decide +kernel
theorem d11_4 : decode prog_26_method_17_code 4 = .ok (.lreturn, 1) := by decide +kernel
def Q11 (Z : State) (a1 : Addr) (u_passedOnDeclarations : Int64) (h0 : Heap) (n0 : Nat) (v : Option Value) (h : Heap) (L : List Loc) : Prop := v = some (.long u_passedOnDeclarations) ∧ Fr n0 L ∧ h = h0
set_option maxRecDepth 65536 in
set_option maxHeartbeats 40000000 in
theorem rm11 (l : Launch) (Z : State) (a0 : Array Value) (hw : ∀ d ∈ tables_1, d.before a0 Z = true) (ws : List Jvm.Cond) (a1 : Addr) (u_passedOnDeclarations : Int64) (h0 : Heap) (n0 : Nat) (Z0 : n0 ≤ h0.size) (F_a1_passedOnDeclarations : Fld Z h0 a1 "com/example/skope/skope/xml/Intake" "passedOnDeclarations" "J" (.long u_passedOnDeclarations)) :
    MetFree l (⟨"com/example/skope/skope/xml/Intake", "passedOnDeclarations", "()J"⟩ : MethodName) (head1 (Jvm.Cond.code (⟨"com/example/skope/skope/xml/Intake", "passedOnDeclarations", "()J"⟩ : MethodName) prog_26_method_17_code 1 (some .long) :: ws) ({ frames := 0, cells := 0, slots := 0, locals := 0 } : Room)) (fun a U => a = #[(.ref a1)] ∧ Z.Warmed39 U.vm ∧ U.heap = h0) (fun _ _ _ _ _ => True) (fun _ U o U' => ∃ v L, o = .returned v ∧ Q11 Z a1 u_passedOnDeclarations h0 n0 v U'.heap L ∧ FrameEnd U o U' L ({ frames := 0, cells := 0, slots := 0, locals := 0 } : Room).cells ({ frames := 0, cells := 0, slots := 0, locals := 0 } : Room).slots) := by
  refine MetFree.of_bodySF (plainFor_of_name pn_0) hisR ?_
  intro p e s m args below meth c s₁ Bd hml0 hP hK
  obtain ⟨rfl, hZ, hh⟩ := hP
  have hx := Bd.exec
  have hby := Bd.bytes
  have hml : c.maxLocals = 1 := hml0
  have hown : s.vm.findClass "com/example/skope/skope/xml/Intake" = some m.cls := findClass_of_methodNamed Bd.named
  have hnm := (name_of_methodNamed Bd.named Bd.method).1
  have X0 : Stand p l e ({ frames := 0, cells := 0, slots := 0, locals := 0 } : Room) s m #[(.ref a1)] below meth c s₁ [] 0 0 := Stand.of_body Bd
  have e0 : s₁.heap = h0 := by rw [← hh, Bd.state]; rfl
  have NF := Fr.nil n0
  refine WP.go ?_
  refine WP.cast (ef_11 m a1) ?_
  refine WP.name ?_
  intro G hG
  have bk50 : ∀ t, Steps p.tables e below (s₁.setTop (mkF m 1 #[.val (.ref a1)] [(.ref a1)])) t → Steps p.tables e below (s₁.setTop (mkF m 0 #[.val (.ref a1)] [])) t := fun t k => by
    refine XS.aloadN X0.here hx rfl (hb hby d11_0) rfl rfl ?_
    exact k
  refine WP.st bk50 ?_
  clear bk50
  obtain ⟨T51, X51, e51, st51⟩ := getF X0 hx hZ hown (host := "") (Or.inl (hw _ (List.mem_of_getElem? (i := 35) rfl))) Via.refl e0 F_a1_passedOnDeclarations (g := (mkF m 1 #[.val (.ref a1)] [(.ref a1)])) rfl rfl (hb hby d11_1)
  refine WP.st st51 ?_
  clear st51
  show WP p.tables e below _ T51 (mkF m 4 #[.val (.ref a1)] [(.long u_passedOnDeclarations)])
  subst hG
  obtain ⟨fs, hr, hrun, hended, hW, hsame⟩ := X51.leave (v := some (.long u_passedOnDeclarations)) (fun h => by rw [Bd.returns] at h; cases h)
  refine WP.fin ⟨_, _, ?_, hrun, hended, _, _, rfl, ?_, ⟨_, rfl⟩, hW, hsame.mono (by decide) (by decide)⟩
  · exact X51.lreturnOut hx Bd.returns (hb hby d11_4) hr
  · show Q11 Z a1 u_passedOnDeclarations h0 n0 _ T51.heap _
    rw [e51]
    exact ⟨rfl, NF, rfl⟩
theorem ef_12 (m : MethodId) (a1 : Addr) : entryFrame m #[(.ref a1)] 1 = mkF m 0 #[.val (.ref a1)] [] := by first | (simp [entryFrame, mkF, argsToLocals, Value.category]; done) | rfl
theorem d12_0 : decode prog_26_method_18_code 0 = .ok (.aload_n 0, 1) := by decide +kernel
theorem d12_1 : decode prog_26_method_18_code 1 = .ok (.getfield 88, 3) := by decide +kernel
theorem d12_4 : decode prog_26_method_18_code 4 = .ok (.lreturn, 1) := by decide +kernel
def Q12 (Z : State) (a1 : Addr) (u_passedOnChars : Int64) (h0 : Heap) (n0 : Nat) (v : Option Value) (h : Heap) (L : List Loc) : Prop := v = some (.long u_passedOnChars) ∧ Fr n0 L ∧ h = h0
set_option maxRecDepth 65536 in
set_option maxHeartbeats 40000000 in
theorem rm12 (l : Launch) (Z : State) (a0 : Array Value) (hw : ∀ d ∈ tables_1, d.before a0 Z = true) (ws : List Jvm.Cond) (a1 : Addr) (u_passedOnChars : Int64) (h0 : Heap) (n0 : Nat) (Z0 : n0 ≤ h0.size) (F_a1_passedOnChars : Fld Z h0 a1 "com/example/skope/skope/xml/Intake" "passedOnChars" "J" (.long u_passedOnChars)) :
    MetFree l (⟨"com/example/skope/skope/xml/Intake", "passedOnChars", "()J"⟩ : MethodName) (head1 (Jvm.Cond.code (⟨"com/example/skope/skope/xml/Intake", "passedOnChars", "()J"⟩ : MethodName) prog_26_method_18_code 1 (some .long) :: ws) ({ frames := 0, cells := 0, slots := 0, locals := 0 } : Room)) (fun a U => a = #[(.ref a1)] ∧ Z.Warmed39 U.vm ∧ U.heap = h0) (fun _ _ _ _ _ => True) (fun _ U o U' => ∃ v L, o = .returned v ∧ Q12 Z a1 u_passedOnChars h0 n0 v U'.heap L ∧ FrameEnd U o U' L ({ frames := 0, cells := 0, slots := 0, locals := 0 } : Room).cells ({ frames := 0, cells := 0, slots := 0, locals := 0 } : Room).slots) := by
  refine MetFree.of_bodySF (plainFor_of_name pn_0) hisR ?_
  intro p e s m args below meth c s₁ Bd hml0 hP hK
  obtain ⟨rfl, hZ, hh⟩ := hP
  have hx := Bd.exec
  have hby := Bd.bytes
  have hml : c.maxLocals = 1 := hml0
  have hown : s.vm.findClass "com/example/skope/skope/xml/Intake" = some m.cls := findClass_of_methodNamed Bd.named
  have hnm := (name_of_methodNamed Bd.named Bd.method).1
  have X0 : Stand p l e ({ frames := 0, cells := 0, slots := 0, locals := 0 } : Room) s m #[(.ref a1)] below meth c s₁ [] 0 0 := Stand.of_body Bd
  have e0 : s₁.heap = h0 := by rw [← hh, Bd.state]; rfl
  have NF := Fr.nil n0
  refine WP.go ?_
  refine WP.cast (ef_12 m a1) ?_
  refine WP.name ?_
  intro G hG
  have bk52 : ∀ t, Steps p.tables e below (s₁.setTop (mkF m 1 #[.val (.ref a1)] [(.ref a1)])) t → Steps p.tables e below (s₁.setTop (mkF m 0 #[.val (.ref a1)] [])) t := fun t k => by
    refine XS.aloadN X0.here hx rfl (hb hby d12_0) rfl rfl ?_
    exact k
  refine WP.st bk52 ?_
  clear bk52
  obtain ⟨T53, X53, e53, st53⟩ := getF X0 hx hZ hown (host := "") (Or.inl (hw _ (List.mem_of_getElem? (i := 37) rfl))) Via.refl e0 F_a1_passedOnChars (g := (mkF m 1 #[.val (.ref a1)] [(.ref a1)])) rfl rfl (hb hby d12_1)
  refine WP.st st53 ?_
  clear st53
  show WP p.tables e below _ T53 (mkF m 4 #[.val (.ref a1)] [(.long u_passedOnChars)])
  subst hG
  obtain ⟨fs, hr, hrun, hended, hW, hsame⟩ := X53.leave (v := some (.long u_passedOnChars)) (fun h => by rw [Bd.returns] at h; cases h)
  refine WP.fin ⟨_, _, ?_, hrun, hended, _, _, rfl, ?_, ⟨_, rfl⟩, hW, hsame.mono (by decide) (by decide)⟩
  · exact X53.lreturnOut hx Bd.returns (hb hby d12_4) hr
  · show Q12 Z a1 u_passedOnChars h0 n0 _ T53.heap _
    rw [e53]
    exact ⟨rfl, NF, rfl⟩
theorem ef_0 (m : MethodId) (p1 : Int32) (p2 : Int32) (q1 : Int64) (q2 : Int64) : entryFrame m #[(.int p1), (.int p2), (.long q1), (.long q2)] maxLocals = mkF m 0 #[.val (.int p1), .val (.int p2), .val (.long q1), .second, .val (.long q2), .second, .unset, .unset, .unset, .unset, .unset, .unset, .unset, .unset] [] := by first | (simp [entryFrame, mkF, argsToLocals, Value.category, maxLocals]; done) | rfl
theorem pn_1 : plainName "com/example/skope/skope/xml/IntakeDropNamesPinLaw" = true := by first | (simp [plainName, overriddenIn]; done) | decide +kernel
theorem pd_1 : parseMethodDescriptor "()V" = some ⟨[], none⟩ := by decide +kernel
theorem pd_2 : parseMethodDescriptor "()Z" = some ⟨[], some .boolean⟩ := by decide +kernel
theorem pd_3 : parseMethodDescriptor "(I)V" = some ⟨[.int], none⟩ := by decide +kernel
theorem pd_4 : parseMethodDescriptor "(JJ)V" = some ⟨[.long, .long], none⟩ := by decide +kernel
theorem pd_5 : parseMethodDescriptor "(Z)V" = some ⟨[.boolean], none⟩ := by decide +kernel
theorem pd_6 : parseMethodDescriptor "()J" = some ⟨[], some .long⟩ := by decide +kernel
theorem pd_7 : parseMethodDescriptor "()I" = some ⟨[], some .int⟩ := by decide +kernel
def Q0 (Z : State) (p1 : Int32) (p2 : Int32) (q1 : Int64) (q2 : Int64) (h0 : Heap) (n0 : Nat) (v : Option Value) (h : Heap) (L : List Loc) : Prop := v = some (.int 1) ∧ Fr n0 L
set_option maxRecDepth 65536 in
set_option maxHeartbeats 40000000 in
theorem rm0 (l : Launch) (Z : State) (a0 : Array Value) (hw : ∀ d ∈ tables_1, d.before a0 Z = true) (ws : List Jvm.Cond) (p1 : Int32) (p2 : Int32) (q1 : Int64) (q2 : Int64) (h0 : Heap) (n0 : Nat) (Z0 : n0 ≤ h0.size)  :
    MetFree l x (head1 (Jvm.Cond.code x code maxLocals ret :: ws) room_1) (fun a U => a = #[(.int p1), (.int p2), (.long q1), (.long q2)] ∧ Z.Warmed39 U.vm ∧ U.heap = h0) (fun _ _ _ _ _ => True) (fun _ U o U' => ∃ v L, o = .returned v ∧ Q0 Z p1 p2 q1 q2 h0 n0 v U'.heap L ∧ FrameEnd U o U' L room_1.cells room_1.slots) := by
  refine MetFree.of_bodySF (plainFor_of_name pn_1) hisR ?_
  intro p e s m args below meth c s₁ Bd hml0 hP hK
  obtain ⟨rfl, hZ, hh⟩ := hP
  have hx := Bd.exec
  have hby := Bd.bytes
  have hml : c.maxLocals = 14 := hml0
  have hown : s.vm.findClass "com/example/skope/skope/xml/IntakeDropNamesPinLaw" = some m.cls := findClass_of_methodNamed Bd.named
  have hnm := (name_of_methodNamed Bd.named Bd.method).1
  have X0 : Stand p l e room_1 s m #[(.int p1), (.int p2), (.long q1), (.long q2)] below meth c s₁ [] 0 0 := Stand.of_body Bd
  have e0 : s₁.heap = h0 := by rw [← hh, Bd.state]; rfl
  have NF := Fr.nil n0
  refine WP.go ?_
  refine WP.cast (ef_0 m p1 p2 q1 q2) ?_
  refine WP.name ?_
  intro G hG
  have bk55 : ∀ t, Steps p.tables e below (s₁.setTop (mkF m 3 #[.val (.int p1), .val (.int p2), .val (.long q1), .second, .val (.long q2), .second, .unset, .unset, .unset, .unset, .unset, .unset, .unset, .unset] [(.int (p1 &&& (1 : Int32)))])) t → Steps p.tables e below (s₁.setTop (mkF m 0 #[.val (.int p1), .val (.int p2), .val (.long q1), .second, .val (.long q2), .second, .unset, .unset, .unset, .unset, .unset, .unset, .unset, .unset] [])) t := fun t k => by
    refine XS.iloadN X0.here hx rfl (hb hby at_0) rfl ?_
    show Steps p.tables e below (s₁.setTop (mkF m 1 #[.val (.int p1), .val (.int p2), .val (.long q1), .second, .val (.long q2), .second, .unset, .unset, .unset, .unset, .unset, .unset, .unset, .unset] [(.int p1)])) t
    refine XS.iconst X0.here hx rfl (hb hby at_1) ?_
    show Steps p.tables e below (s₁.setTop (mkF m 2 #[.val (.int p1), .val (.int p2), .val (.long q1), .second, .val (.long q2), .second, .unset, .unset, .unset, .unset, .unset, .unset, .unset, .unset] [(.int (1 : Int32)), (.int p1)])) t
    refine XS.iand X0.here hx rfl (hb hby at_2) rfl ?_
    exact k
  refine WP.st bk55 ?_
  clear bk55
  by_cases hc54 : (p1 &&& (1 : Int32)) = (0 : Int32)
  · skip
    have bk57 : ∀ t, Steps p.tables e below (s₁.setTop (mkF m 16 #[.val (.int p1), .val (.int p2), .val (.long q1), .second, .val (.long q2), .second, .val (.int (0 : Int32)), .unset, .unset, .unset, .unset, .unset, .unset, .unset] [(.int (p1 &&& (2 : Int32)))])) t → Steps p.tables e below (s₁.setTop (mkF m 3 #[.val (.int p1), .val (.int p2), .val (.long q1), .second, .val (.long q2), .second, .unset, .unset, .unset, .unset, .unset, .unset, .unset, .unset] [(.int (p1 &&& (1 : Int32)))])) t := fun t k => by
      refine XS.ifYes X0.here hx rfl (pc0 := 3) (pc' := 10) rfl (hb hby at_3) rfl ((if0 _ _).trans (teq hc54).1) (by decide) (by decide) ?_
      show Steps p.tables e below (s₁.setTop (mkF m 10 #[.val (.int p1), .val (.int p2), .val (.long q1), .second, .val (.long q2), .second, .unset, .unset, .unset, .unset, .unset, .unset, .unset, .unset] [])) t
      refine XS.iconst X0.here hx rfl (hb hby at_10) ?_
      show Steps p.tables e below (s₁.setTop (mkF m 11 #[.val (.int p1), .val (.int p2), .val (.long q1), .second, .val (.long q2), .second, .unset, .unset, .unset, .unset, .unset, .unset, .unset, .unset] [(.int (0 : Int32))])) t
      refine XS.istore X0.here hx rfl (hb hby at_11) rfl (l' := #[.val (.int p1), .val (.int p2), .val (.long q1), .second, .val (.long q2), .second, .val (.int (0 : Int32)), .unset, .unset, .unset, .unset, .unset, .unset, .unset]) rfl ?_
      show Steps p.tables e below (s₁.setTop (mkF m 13 #[.val (.int p1), .val (.int p2), .val (.long q1), .second, .val (.long q2), .second, .val (.int (0 : Int32)), .unset, .unset, .unset, .unset, .unset, .unset, .unset] [])) t
      refine XS.iloadN X0.here hx rfl (hb hby at_13) rfl ?_
      show Steps p.tables e below (s₁.setTop (mkF m 14 #[.val (.int p1), .val (.int p2), .val (.long q1), .second, .val (.long q2), .second, .val (.int (0 : Int32)), .unset, .unset, .unset, .unset, .unset, .unset, .unset] [(.int p1)])) t
      refine XS.iconst X0.here hx rfl (hb hby at_14) ?_
      show Steps p.tables e below (s₁.setTop (mkF m 15 #[.val (.int p1), .val (.int p2), .val (.long q1), .second, .val (.long q2), .second, .val (.int (0 : Int32)), .unset, .unset, .unset, .unset, .unset, .unset, .unset] [(.int (2 : Int32)), (.int p1)])) t
      refine XS.iand X0.here hx rfl (hb hby at_15) rfl ?_
      exact k
    refine WP.st bk57 ?_
    clear bk57
    by_cases hc56 : (p1 &&& (2 : Int32)) = (0 : Int32)
    · skip
      have bk58 : ∀ t, Steps p.tables e below (s₁.setTop (mkF m 26 #[.val (.int p1), .val (.int p2), .val (.long q1), .second, .val (.long q2), .second, .val (.int (0 : Int32)), .val (.int (0 : Int32)), .unset, .unset, .unset, .unset, .unset, .unset] [])) t → Steps p.tables e below (s₁.setTop (mkF m 16 #[.val (.int p1), .val (.int p2), .val (.long q1), .second, .val (.long q2), .second, .val (.int (0 : Int32)), .unset, .unset, .unset, .unset, .unset, .unset, .unset] [(.int (p1 &&& (2 : Int32)))])) t := fun t k => by
        refine XS.ifYes X0.here hx rfl (pc0 := 16) (pc' := 23) rfl (hb hby at_16) rfl ((if0 _ _).trans (teq hc56).1) (by decide) (by decide) ?_
        show Steps p.tables e below (s₁.setTop (mkF m 23 #[.val (.int p1), .val (.int p2), .val (.long q1), .second, .val (.long q2), .second, .val (.int (0 : Int32)), .unset, .unset, .unset, .unset, .unset, .unset, .unset] [])) t
        refine XS.iconst X0.here hx rfl (hb hby at_23) ?_
        show Steps p.tables e below (s₁.setTop (mkF m 24 #[.val (.int p1), .val (.int p2), .val (.long q1), .second, .val (.long q2), .second, .val (.int (0 : Int32)), .unset, .unset, .unset, .unset, .unset, .unset, .unset] [(.int (0 : Int32))])) t
        refine XS.istore X0.here hx rfl (hb hby at_24) rfl (l' := #[.val (.int p1), .val (.int p2), .val (.long q1), .second, .val (.long q2), .second, .val (.int (0 : Int32)), .val (.int (0 : Int32)), .unset, .unset, .unset, .unset, .unset, .unset]) rfl ?_
        exact k
      refine WP.st bk58 ?_
      clear bk58
      obtain ⟨T59, h59, X59, e59, E59, A59, D59, -, st59⟩ := newO X0 hx hZ hown (hw _ (List.mem_of_getElem? (i := 0) rfl)) (hw _ (List.mem_of_getElem? (i := 1) rfl)) (hw _ (List.mem_of_getElem? (i := 2) rfl)) e0 (g := (mkF m 26 #[.val (.int p1), .val (.int p2), .val (.long q1), .second, .val (.long q2), .second, .val (.int (0 : Int32)), .val (.int (0 : Int32)), .unset, .unset, .unset, .unset, .unset, .unset] [])) rfl (hb hby at_26) (by decide) (by decide)
      obtain ⟨b59, g59⟩ : ∃ z, z = h0.size := ⟨_, rfl⟩
      rw [← g59] at A59 D59 st59
      refine WP.st st59 ?_
      clear st59
      have g_b59 : n0 ≤ b59 := Nat.le_trans Z0 (Nat.le_of_eq g59.symm)
      replace Z0 := Nat.le_trans Z0 E59.1
      have E_b59 := A59
      have F_b59_longestValues : Fld Z h59 b59 "com/example/skope/skope/xml/Intake" "longestValues" "[I" .null := D59 (Or.inl (hw _ (List.mem_of_getElem? (i := 11) rfl))) (ty := (.array .int)) (by decide)
      have F_b59_dropsNames : Fld Z h59 b59 "com/example/skope/skope/xml/Intake" "dropsNames" "Z" (.int (0 : Int32)) := D59 (Or.inl (hw _ (List.mem_of_getElem? (i := 13) rfl))) (ty := .boolean) (by decide)
      have F_b59_nesting : Fld Z h59 b59 "com/example/skope/skope/xml/Intake" "nesting" "I" (.int (0 : Int32)) := D59 (Or.inl (hw _ (List.mem_of_getElem? (i := 25) rfl))) (ty := .int) (by decide)
      have F_b59_passedOnDeclarations : Fld Z h59 b59 "com/example/skope/skope/xml/Intake" "passedOnDeclarations" "J" (.long (0 : Int64)) := D59 (Or.inl (hw _ (List.mem_of_getElem? (i := 36) rfl))) (ty := .long) (by decide)
      have F_b59_passedOnChars : Fld Z h59 b59 "com/example/skope/skope/xml/Intake" "passedOnChars" "J" (.long (0 : Int64)) := D59 (Or.inl (hw _ (List.mem_of_getElem? (i := 38) rfl))) (ty := .long) (by decide)
      have F_b59_documentTypeDeclaration : Fld Z h59 b59 "com/example/skope/skope/xml/Intake" "documentTypeDeclaration" "Z" (.int (0 : Int32)) := D59 (Or.inl (hw _ (List.mem_of_getElem? (i := 50) rfl))) (ty := .boolean) (by decide)
      have F_b59_bytes : Fld Z h59 b59 "com/example/skope/skope/xml/Intake" "bytes" "J" (.long (0 : Int64)) := D59 (Or.inl (hw _ (List.mem_of_getElem? (i := 52) rfl))) (ty := .long) (by decide)
      have F_b59_stretch : Fld Z h59 b59 "com/example/skope/skope/xml/Intake" "stretch" "J" (.long (0 : Int64)) := D59 (Or.inl (hw _ (List.mem_of_getElem? (i := 54) rfl))) (ty := .long) (by decide)
      have F_b59_started : Fld Z h59 b59 "com/example/skope/skope/xml/Intake" "started" "Z" (.int (0 : Int32)) := D59 (Or.inl (hw _ (List.mem_of_getElem? (i := 56) rfl))) (ty := .boolean) (by decide)
      have F_b59_internalGeneralEntity : Fld Z h59 b59 "com/example/skope/skope/xml/Intake" "internalGeneralEntity" "Z" (.int (0 : Int32)) := D59 (Or.inl (hw _ (List.mem_of_getElem? (i := 58) rfl))) (ty := .boolean) (by decide)
      have F_b59_internalParameterEntity : Fld Z h59 b59 "com/example/skope/skope/xml/Intake" "internalParameterEntity" "Z" (.int (0 : Int32)) := D59 (Or.inl (hw _ (List.mem_of_getElem? (i := 60) rfl))) (ty := .boolean) (by decide)
      have F_b59_attributeList : Fld Z h59 b59 "com/example/skope/skope/xml/Intake" "attributeList" "Z" (.int (0 : Int32)) := D59 (Or.inl (hw _ (List.mem_of_getElem? (i := 62) rfl))) (ty := .boolean) (by decide)
      have F_b59_declaringBytes : Fld Z h59 b59 "com/example/skope/skope/xml/Intake" "declaringBytes" "J" (.long (0 : Int64)) := D59 (Or.inl (hw _ (List.mem_of_getElem? (i := 69) rfl))) (ty := .long) (by decide)
      clear D59 A59
      show WP p.tables e below _ T59 (mkF m 29 #[.val (.int p1), .val (.int p2), .val (.long q1), .second, .val (.long q2), .second, .val (.int (0 : Int32)), .val (.int (0 : Int32)), .unset, .unset, .unset, .unset, .unset, .unset] [(.ref b59)])
      have bk60 : ∀ t, Steps p.tables e below (T59.setTop (mkF m 30 #[.val (.int p1), .val (.int p2), .val (.long q1), .second, .val (.long q2), .second, .val (.int (0 : Int32)), .val (.int (0 : Int32)), .unset, .unset, .unset, .unset, .unset, .unset] [(.ref b59), (.ref b59)])) t → Steps p.tables e below (T59.setTop (mkF m 29 #[.val (.int p1), .val (.int p2), .val (.long q1), .second, .val (.long q2), .second, .val (.int (0 : Int32)), .val (.int (0 : Int32)), .unset, .unset, .unset, .unset, .unset, .unset] [(.ref b59)])) t := fun t k => by
        refine XS.dup X59.here hx rfl (hb hby at_29) rfl rfl ?_
        exact k
      refine WP.st bk60 ?_
      clear bk60
      obtain ⟨_, _, ⟨T61, L61, k61, n61⟩, -, X61, ⟨Lc61, hQ61, l61, y61, z61⟩, st61⟩ := X59.specialBack hx (y := (⟨"com/example/skope/skope/xml/Intake", "<init>", "()V"⟩ : MethodName)) rfl hown (mvT hZ (hw _ (List.mem_of_getElem? (i := 3) rfl))) (mvT hZ (hw _ (List.mem_of_getElem? (i := 4) rfl))) (mvT hZ (hw _ (List.mem_of_getElem? (i := 5) rfl))) (by decide) (backOf (W := 1) (rm1 l Z a0 hw [] b59 Value.null (0 : Int32) (0 : Int32) (0 : Int64) (0 : Int64) (0 : Int32) (0 : Int64) (0 : Int64) (0 : Int32) (0 : Int32) (0 : Int32) (0 : Int32) (0 : Int64) h59 n0 Z0 E_b59 g_b59 F_b59_longestValues F_b59_dropsNames F_b59_nesting F_b59_passedOnDeclarations F_b59_passedOnChars F_b59_documentTypeDeclaration F_b59_bytes F_b59_stretch F_b59_started F_b59_internalGeneralEntity F_b59_internalParameterEntity F_b59_attributeList F_b59_declaringBytes) hZ (hw _ (List.mem_of_getElem? (i := 5) rfl)) (hw _ (List.mem_of_getElem? (i := 2) rfl)) (by decide) (by decide)) (g := (mkF m 30 #[.val (.int p1), .val (.int p2), .val (.long q1), .second, .val (.long q2), .second, .val (.int (0 : Int32)), .val (.int (0 : Int32)), .unset, .unset, .unset, .unset, .unset, .unset] [(.ref b59), (.ref b59)])) rfl (by rw [hml]; rfl) (Steps.refl _) (a := b59) (argsL := []) (rest := [(.ref b59)]) (lenOf pd_1 rfl) rfl (by show 2 * 0 + _ ≤ _; exact Nat.le_of_eq rfl) (hb hby at_30) (fun _ _ => ⟨rfl, e59, (by decide : 1 + 1 ≤ _), (by decide : 15 + 0 ≤ _)⟩)
      dsimp only [Pt.U, Pt.locs, Pt.cells, Pt.slots] at X61 l61 y61 z61 st61 hQ61
      subst l61 y61 z61
      obtain ⟨rfl, Nq61, Kq61, nF61_b59_dropsNames, nF61_b59_nesting, nF61_b59_passedOnDeclarations, nF61_b59_passedOnChars, nF61_b59_documentTypeDeclaration, nF61_b59_bytes, nF61_b59_stretch, nF61_b59_started, nF61_b59_internalGeneralEntity, nF61_b59_internalParameterEntity, nF61_b59_attributeList, nF61_b59_declaringBytes⟩ := hQ61
      replace NF := Fr.app NF Nq61
      clear Nq61
      refine WP.tr st61 ?_
      clear st61
      obtain ⟨h61, e61⟩ : ∃ h, T61.heap = h := ⟨_, rfl⟩
      rw [e61] at Kq61 nF61_b59_dropsNames nF61_b59_nesting nF61_b59_passedOnDeclarations nF61_b59_passedOnChars nF61_b59_documentTypeDeclaration nF61_b59_bytes nF61_b59_stretch nF61_b59_started nF61_b59_internalGeneralEntity nF61_b59_internalParameterEntity nF61_b59_attributeList nF61_b59_declaringBytes
      replace E_b59 := E_b59.keep Kq61
      clear F_b59_longestValues
      clear F_b59_dropsNames
      clear F_b59_nesting
      clear F_b59_passedOnDeclarations
      clear F_b59_passedOnChars
      clear F_b59_documentTypeDeclaration
      clear F_b59_bytes
      clear F_b59_stretch
      clear F_b59_started
      clear F_b59_internalGeneralEntity
      clear F_b59_internalParameterEntity
      clear F_b59_attributeList
      clear F_b59_declaringBytes
      replace Z0 := Nat.le_trans Z0 Kq61.1
      clear Kq61
      have F_b59_dropsNames := nF61_b59_dropsNames
      clear nF61_b59_dropsNames
      have F_b59_nesting := nF61_b59_nesting
      clear nF61_b59_nesting
      have F_b59_passedOnDeclarations := nF61_b59_passedOnDeclarations
      clear nF61_b59_passedOnDeclarations
      have F_b59_passedOnChars := nF61_b59_passedOnChars
      clear nF61_b59_passedOnChars
      have F_b59_documentTypeDeclaration := nF61_b59_documentTypeDeclaration
      clear nF61_b59_documentTypeDeclaration
      have F_b59_bytes := nF61_b59_bytes
      clear nF61_b59_bytes
      have F_b59_stretch := nF61_b59_stretch
      clear nF61_b59_stretch
      have F_b59_started := nF61_b59_started
      clear nF61_b59_started
      have F_b59_internalGeneralEntity := nF61_b59_internalGeneralEntity
      clear nF61_b59_internalGeneralEntity
      have F_b59_internalParameterEntity := nF61_b59_internalParameterEntity
      clear nF61_b59_internalParameterEntity
      have F_b59_attributeList := nF61_b59_attributeList
      clear nF61_b59_attributeList
      have F_b59_declaringBytes := nF61_b59_declaringBytes
      clear nF61_b59_declaringBytes
      show WP p.tables e below _ T61 (mkF m 33 #[.val (.int p1), .val (.int p2), .val (.long q1), .second, .val (.long q2), .second, .val (.int (0 : Int32)), .val (.int (0 : Int32)), .unset, .unset, .unset, .unset, .unset, .unset] [(.ref b59)])
      have bk62 : ∀ t, Steps p.tables e below (T61.setTop (mkF m 37 #[.val (.int p1), .val (.int p2), .val (.long q1), .second, .val (.long q2), .second, .val (.int (0 : Int32)), .val (.int (0 : Int32)), .val (.ref b59), .unset, .unset, .unset, .unset, .unset] [(.ref b59)])) t → Steps p.tables e below (T61.setTop (mkF m 33 #[.val (.int p1), .val (.int p2), .val (.long q1), .second, .val (.long q2), .second, .val (.int (0 : Int32)), .val (.int (0 : Int32)), .unset, .unset, .unset, .unset, .unset, .unset] [(.ref b59)])) t := fun t k => by
        refine XS.astore X61.here hx rfl (hb hby at_33) rfl rfl (l' := #[.val (.int p1), .val (.int p2), .val (.long q1), .second, .val (.long q2), .second, .val (.int (0 : Int32)), .val (.int (0 : Int32)), .val (.ref b59), .unset, .unset, .unset, .unset, .unset]) rfl ?_
        show Steps p.tables e below (T61.setTop (mkF m 35 #[.val (.int p1), .val (.int p2), .val (.long q1), .second, .val (.long q2), .second, .val (.int (0 : Int32)), .val (.int (0 : Int32)), .val (.ref b59), .unset, .unset, .unset, .unset, .unset] [])) t
        refine XS.aload X61.here hx rfl (hb hby at_35) rfl rfl ?_
        exact k
      refine WP.st bk62 ?_
      clear bk62
      obtain ⟨cq63, kq63, q63a, q63b, q63c⟩ := isOf hZ e61 E_b59
      obtain ⟨_, _, ⟨T63, L63, k63, n63⟩, -, X63, ⟨Lc63, hQ63, l63, y63, z63⟩, st63⟩ := X61.virtualBack hx (y := (⟨"com/example/skope/skope/xml/Intake", "dropsNames", "()Z"⟩ : MethodName)) (z := (⟨"com/example/skope/skope/xml/Intake", "dropsNames", "()Z"⟩ : MethodName)) hown (mvT hZ (hw _ (List.mem_of_getElem? (i := 14) rfl))) (mvT hZ (hw _ (List.mem_of_getElem? (i := 15) rfl))) (notFace_of_selects (args := #[]) (mvT hZ (hw _ (List.mem_of_getElem? (i := 17) rfl)))) (mvT hZ (hw _ (List.mem_of_getElem? (i := 17) rfl))) (mvT hZ (hw _ (List.mem_of_getElem? (i := 16) rfl))) (by decide) (backOf (W := 0) (rm3 l Z a0 hw [] b59 (1 : Int32) h61 n0 Z0 F_b59_dropsNames) hZ (hw _ (List.mem_of_getElem? (i := 18) rfl)) (hw _ (List.mem_of_getElem? (i := 2) rfl)) (by decide) (by decide)) q63a q63c (g := (mkF m 37 #[.val (.int p1), .val (.int p2), .val (.long q1), .second, .val (.long q2), .second, .val (.int (0 : Int32)), .val (.int (0 : Int32)), .val (.ref b59), .unset, .unset, .unset, .unset, .unset] [(.ref b59)])) rfl (by rw [hml]; rfl) (Steps.refl _) (argsL := []) (rest := []) (lenOf pd_2 rfl) rfl (by show 2 * 0 + _ ≤ _; exact Nat.le_of_eq rfl) (hb hby at_37) (fun _ _ => ⟨rfl, e61, (by decide : 2 + 0 ≤ _), (by decide : 15 + 0 ≤ _)⟩)
      dsimp only [Pt.U, Pt.locs, Pt.cells, Pt.slots] at X63 l63 y63 z63 st63 hQ63
      subst l63 y63 z63
      obtain ⟨rfl, Nq63, Kq63⟩ := hQ63
      replace NF := Fr.app NF Nq63
      clear Nq63
      refine WP.tr st63 ?_
      clear st63
      replace Kq63 := Kq63.trans (rfl : h61 = h61)
      show WP p.tables e below _ T63 (mkF m 40 #[.val (.int p1), .val (.int p2), .val (.long q1), .second, .val (.long q2), .second, .val (.int (0 : Int32)), .val (.int (0 : Int32)), .val (.ref b59), .unset, .unset, .unset, .unset, .unset] [(.int (nar .boolean (1 : Int32)))])
      rw [show (nar .boolean (1 : Int32)) = (1 : Int32) from by decide]
      show WP p.tables e below _ T63 (mkF m 40 #[.val (.int p1), .val (.int p2), .val (.long q1), .second, .val (.long q2), .second, .val (.int (0 : Int32)), .val (.int (0 : Int32)), .val (.ref b59), .unset, .unset, .unset, .unset, .unset] [(.int (1 : Int32))])
      have bk64 : ∀ t, Steps p.tables e below (T63.setTop (mkF m 45 #[.val (.int p1), .val (.int p2), .val (.long q1), .second, .val (.long q2), .second, .val (.int (0 : Int32)), .val (.int (0 : Int32)), .val (.ref b59), .val (.int (1 : Int32)), .unset, .unset, .unset, .unset] [(.int p2), (.ref b59)])) t → Steps p.tables e below (T63.setTop (mkF m 40 #[.val (.int p1), .val (.int p2), .val (.long q1), .second, .val (.long q2), .second, .val (.int (0 : Int32)), .val (.int (0 : Int32)), .val (.ref b59), .unset, .unset, .unset, .unset, .unset] [(.int (1 : Int32))])) t := fun t k => by
        refine XS.istore X63.here hx rfl (hb hby at_40) rfl (l' := #[.val (.int p1), .val (.int p2), .val (.long q1), .second, .val (.long q2), .second, .val (.int (0 : Int32)), .val (.int (0 : Int32)), .val (.ref b59), .val (.int (1 : Int32)), .unset, .unset, .unset, .unset]) rfl ?_
        show Steps p.tables e below (T63.setTop (mkF m 42 #[.val (.int p1), .val (.int p2), .val (.long q1), .second, .val (.long q2), .second, .val (.int (0 : Int32)), .val (.int (0 : Int32)), .val (.ref b59), .val (.int (1 : Int32)), .unset, .unset, .unset, .unset] [])) t
        refine XS.aload X63.here hx rfl (hb hby at_42) rfl rfl ?_
        show Steps p.tables e below (T63.setTop (mkF m 44 #[.val (.int p1), .val (.int p2), .val (.long q1), .second, .val (.long q2), .second, .val (.int (0 : Int32)), .val (.int (0 : Int32)), .val (.ref b59), .val (.int (1 : Int32)), .unset, .unset, .unset, .unset] [(.ref b59)])) t
        refine XS.iloadN X63.here hx rfl (hb hby at_44) rfl ?_
        exact k
      refine WP.st bk64 ?_
      clear bk64
      obtain ⟨cq65, kq65, q65a, q65b, q65c⟩ := isOf hZ Kq63 E_b59
      obtain ⟨_, _, ⟨T65, L65, k65, n65⟩, -, X65, ⟨Lc65, hQ65, l65, y65, z65⟩, st65⟩ := X63.virtualBack hx (y := (⟨"com/example/skope/skope/xml/Intake", "addNesting", "(I)V"⟩ : MethodName)) (z := (⟨"com/example/skope/skope/xml/Intake", "addNesting", "(I)V"⟩ : MethodName)) hown (mvT hZ (hw _ (List.mem_of_getElem? (i := 19) rfl))) (mvT hZ (hw _ (List.mem_of_getElem? (i := 20) rfl))) (notFace_of_selects (args := #[]) (mvT hZ (hw _ (List.mem_of_getElem? (i := 22) rfl)))) (mvT hZ (hw _ (List.mem_of_getElem? (i := 22) rfl))) (mvT hZ (hw _ (List.mem_of_getElem? (i := 21) rfl))) (by decide) (backOf (W := 0) (rm4 l Z a0 hw [] b59 p2 (1 : Int32) (0 : Int32) (0 : Int64) (0 : Int64) (0 : Int32) (0 : Int64) (0 : Int64) (0 : Int32) (0 : Int32) (0 : Int32) (0 : Int32) (0 : Int64) h61 n0 Z0 E_b59 g_b59 F_b59_dropsNames F_b59_nesting F_b59_passedOnDeclarations F_b59_passedOnChars F_b59_documentTypeDeclaration F_b59_bytes F_b59_stretch F_b59_started F_b59_internalGeneralEntity F_b59_internalParameterEntity F_b59_attributeList F_b59_declaringBytes) hZ (hw _ (List.mem_of_getElem? (i := 23) rfl)) (hw _ (List.mem_of_getElem? (i := 2) rfl)) (by decide) (by decide)) q65a q65c (g := (mkF m 45 #[.val (.int p1), .val (.int p2), .val (.long q1), .second, .val (.long q2), .second, .val (.int (0 : Int32)), .val (.int (0 : Int32)), .val (.ref b59), .val (.int (1 : Int32)), .unset, .unset, .unset, .unset] [(.int p2), (.ref b59)])) rfl (by rw [hml]; rfl) (Steps.refl _) (argsL := [(.int p2)]) (rest := []) (lenOf pd_3 rfl) rfl (by show 2 * 0 + _ ≤ _; exact Nat.le_of_eq rfl) (hb hby at_45) (fun _ _ => ⟨rfl, Kq63, (by decide : 2 + 0 ≤ _), (by decide : 15 + 0 ≤ _)⟩)
      dsimp only [Pt.U, Pt.locs, Pt.cells, Pt.slots] at X65 l65 y65 z65 st65 hQ65
      subst l65 y65 z65
      obtain ⟨rfl, Nq65, Kq65, nF65_b59_dropsNames, nF65_b59_nesting, nF65_b59_passedOnDeclarations, nF65_b59_passedOnChars, nF65_b59_documentTypeDeclaration, nF65_b59_bytes, nF65_b59_stretch, nF65_b59_started, nF65_b59_internalGeneralEntity, nF65_b59_internalParameterEntity, nF65_b59_attributeList, nF65_b59_declaringBytes⟩ := hQ65
      replace NF := Fr.app NF Nq65
      clear Nq65
      refine WP.tr st65 ?_
      clear st65
      obtain ⟨h65, e65⟩ : ∃ h, T65.heap = h := ⟨_, rfl⟩
      rw [e65] at Kq65 nF65_b59_dropsNames nF65_b59_nesting nF65_b59_passedOnDeclarations nF65_b59_passedOnChars nF65_b59_documentTypeDeclaration nF65_b59_bytes nF65_b59_stretch nF65_b59_started nF65_b59_internalGeneralEntity nF65_b59_internalParameterEntity nF65_b59_attributeList nF65_b59_declaringBytes
      replace E_b59 := E_b59.keep Kq65
      clear F_b59_dropsNames
      clear F_b59_nesting
      clear F_b59_passedOnDeclarations
      clear F_b59_passedOnChars
      clear F_b59_documentTypeDeclaration
      clear F_b59_bytes
      clear F_b59_stretch
      clear F_b59_started
      clear F_b59_internalGeneralEntity
      clear F_b59_internalParameterEntity
      clear F_b59_attributeList
      clear F_b59_declaringBytes
      replace Z0 := Nat.le_trans Z0 Kq65.1
      clear Kq65
      have F_b59_dropsNames := nF65_b59_dropsNames
      clear nF65_b59_dropsNames
      have F_b59_nesting := nF65_b59_nesting
      clear nF65_b59_nesting
      have F_b59_passedOnDeclarations := nF65_b59_passedOnDeclarations
      clear nF65_b59_passedOnDeclarations
      have F_b59_passedOnChars := nF65_b59_passedOnChars
      clear nF65_b59_passedOnChars
      have F_b59_documentTypeDeclaration := nF65_b59_documentTypeDeclaration
      clear nF65_b59_documentTypeDeclaration
      have F_b59_bytes := nF65_b59_bytes
      clear nF65_b59_bytes
      have F_b59_stretch := nF65_b59_stretch
      clear nF65_b59_stretch
      have F_b59_started := nF65_b59_started
      clear nF65_b59_started
      have F_b59_internalGeneralEntity := nF65_b59_internalGeneralEntity
      clear nF65_b59_internalGeneralEntity
      have F_b59_internalParameterEntity := nF65_b59_internalParameterEntity
      clear nF65_b59_internalParameterEntity
      have F_b59_attributeList := nF65_b59_attributeList
      clear nF65_b59_attributeList
      have F_b59_declaringBytes := nF65_b59_declaringBytes
      clear nF65_b59_declaringBytes
      show WP p.tables e below _ T65 (mkF m 48 #[.val (.int p1), .val (.int p2), .val (.long q1), .second, .val (.long q2), .second, .val (.int (0 : Int32)), .val (.int (0 : Int32)), .val (.ref b59), .val (.int (1 : Int32)), .unset, .unset, .unset, .unset] [])
      have bk66 : ∀ t, Steps p.tables e below (T65.setTop (mkF m 53 #[.val (.int p1), .val (.int p2), .val (.long q1), .second, .val (.long q2), .second, .val (.int (0 : Int32)), .val (.int (0 : Int32)), .val (.ref b59), .val (.int (1 : Int32)), .unset, .unset, .unset, .unset] [(.long q2), (.long q1), (.ref b59)])) t → Steps p.tables e below (T65.setTop (mkF m 48 #[.val (.int p1), .val (.int p2), .val (.long q1), .second, .val (.long q2), .second, .val (.int (0 : Int32)), .val (.int (0 : Int32)), .val (.ref b59), .val (.int (1 : Int32)), .unset, .unset, .unset, .unset] [])) t := fun t k => by
        refine XS.aload X65.here hx rfl (hb hby at_48) rfl rfl ?_
        show Steps p.tables e below (T65.setTop (mkF m 50 #[.val (.int p1), .val (.int p2), .val (.long q1), .second, .val (.long q2), .second, .val (.int (0 : Int32)), .val (.int (0 : Int32)), .val (.ref b59), .val (.int (1 : Int32)), .unset, .unset, .unset, .unset] [(.ref b59)])) t
        refine XS.lloadN X65.here hx rfl (hb hby at_50) rfl ?_
        show Steps p.tables e below (T65.setTop (mkF m 51 #[.val (.int p1), .val (.int p2), .val (.long q1), .second, .val (.long q2), .second, .val (.int (0 : Int32)), .val (.int (0 : Int32)), .val (.ref b59), .val (.int (1 : Int32)), .unset, .unset, .unset, .unset] [(.long q1), (.ref b59)])) t
        refine XS.lload X65.here hx rfl (hb hby at_51) rfl ?_
        exact k
      refine WP.st bk66 ?_
      clear bk66
      obtain ⟨cq67, kq67, q67a, q67b, q67c⟩ := isOf hZ e65 E_b59
      obtain ⟨_, _, ⟨T67, L67, k67, n67⟩, -, X67, ⟨Lc67, hQ67, l67, y67, z67⟩, st67⟩ := X65.virtualBack hx (y := (⟨"com/example/skope/skope/xml/Intake", "passOn", "(JJ)V"⟩ : MethodName)) (z := (⟨"com/example/skope/skope/xml/Intake", "passOn", "(JJ)V"⟩ : MethodName)) hown (mvT hZ (hw _ (List.mem_of_getElem? (i := 30) rfl))) (mvT hZ (hw _ (List.mem_of_getElem? (i := 31) rfl))) (notFace_of_selects (args := #[]) (mvT hZ (hw _ (List.mem_of_getElem? (i := 33) rfl)))) (mvT hZ (hw _ (List.mem_of_getElem? (i := 33) rfl))) (mvT hZ (hw _ (List.mem_of_getElem? (i := 32) rfl))) (by decide) (backOf (W := 0) (rm6 l Z a0 hw [] b59 q1 q2 (1 : Int32) (own_max (0 : Int32) p2) (0 : Int64) (0 : Int64) (0 : Int32) (0 : Int64) (0 : Int64) (0 : Int32) (0 : Int32) (0 : Int32) (0 : Int32) (0 : Int64) h65 n0 Z0 E_b59 g_b59 F_b59_dropsNames F_b59_nesting F_b59_passedOnDeclarations F_b59_passedOnChars F_b59_documentTypeDeclaration F_b59_bytes F_b59_stretch F_b59_started F_b59_internalGeneralEntity F_b59_internalParameterEntity F_b59_attributeList F_b59_declaringBytes) hZ (hw _ (List.mem_of_getElem? (i := 34) rfl)) (hw _ (List.mem_of_getElem? (i := 2) rfl)) (by decide) (by decide)) q67a q67c (g := (mkF m 53 #[.val (.int p1), .val (.int p2), .val (.long q1), .second, .val (.long q2), .second, .val (.int (0 : Int32)), .val (.int (0 : Int32)), .val (.ref b59), .val (.int (1 : Int32)), .unset, .unset, .unset, .unset] [(.long q2), (.long q1), (.ref b59)])) rfl (by rw [hml]; rfl) (Steps.refl _) (argsL := [(.long q1), (.long q2)]) (rest := []) (lenOf pd_4 rfl) rfl (by show 2 * 0 + _ ≤ _; exact Nat.le_of_eq rfl) (hb hby at_53) (fun _ _ => ⟨rfl, e65, (by decide : 2 + 0 ≤ _), (by decide : 15 + 0 ≤ _)⟩)
      dsimp only [Pt.U, Pt.locs, Pt.cells, Pt.slots] at X67 l67 y67 z67 st67 hQ67
      subst l67 y67 z67
      obtain ⟨rfl, Nq67, Kq67, nF67_b59_dropsNames, nF67_b59_nesting, nF67_b59_passedOnDeclarations, nF67_b59_passedOnChars, nF67_b59_documentTypeDeclaration, nF67_b59_bytes, nF67_b59_stretch, nF67_b59_started, nF67_b59_internalGeneralEntity, nF67_b59_internalParameterEntity, nF67_b59_attributeList, nF67_b59_declaringBytes⟩ := hQ67
      replace NF := Fr.app NF Nq67
      clear Nq67
      refine WP.tr st67 ?_
      clear st67
      obtain ⟨h67, e67⟩ : ∃ h, T67.heap = h := ⟨_, rfl⟩
      rw [e67] at Kq67 nF67_b59_dropsNames nF67_b59_nesting nF67_b59_passedOnDeclarations nF67_b59_passedOnChars nF67_b59_documentTypeDeclaration nF67_b59_bytes nF67_b59_stretch nF67_b59_started nF67_b59_internalGeneralEntity nF67_b59_internalParameterEntity nF67_b59_attributeList nF67_b59_declaringBytes
      replace E_b59 := E_b59.keep Kq67
      clear F_b59_dropsNames
      clear F_b59_nesting
      clear F_b59_passedOnDeclarations
      clear F_b59_passedOnChars
      clear F_b59_documentTypeDeclaration
      clear F_b59_bytes
      clear F_b59_stretch
      clear F_b59_started
      clear F_b59_internalGeneralEntity
      clear F_b59_internalParameterEntity
      clear F_b59_attributeList
      clear F_b59_declaringBytes
      replace Z0 := Nat.le_trans Z0 Kq67.1
      clear Kq67
      have F_b59_dropsNames := nF67_b59_dropsNames
      clear nF67_b59_dropsNames
      have F_b59_nesting := nF67_b59_nesting
      clear nF67_b59_nesting
      have F_b59_passedOnDeclarations := nF67_b59_passedOnDeclarations
      clear nF67_b59_passedOnDeclarations
      have F_b59_passedOnChars := nF67_b59_passedOnChars
      clear nF67_b59_passedOnChars
      have F_b59_documentTypeDeclaration := nF67_b59_documentTypeDeclaration
      clear nF67_b59_documentTypeDeclaration
      have F_b59_bytes := nF67_b59_bytes
      clear nF67_b59_bytes
      have F_b59_stretch := nF67_b59_stretch
      clear nF67_b59_stretch
      have F_b59_started := nF67_b59_started
      clear nF67_b59_started
      have F_b59_internalGeneralEntity := nF67_b59_internalGeneralEntity
      clear nF67_b59_internalGeneralEntity
      have F_b59_internalParameterEntity := nF67_b59_internalParameterEntity
      clear nF67_b59_internalParameterEntity
      have F_b59_attributeList := nF67_b59_attributeList
      clear nF67_b59_attributeList
      have F_b59_declaringBytes := nF67_b59_declaringBytes
      clear nF67_b59_declaringBytes
      show WP p.tables e below _ T67 (mkF m 56 #[.val (.int p1), .val (.int p2), .val (.long q1), .second, .val (.long q2), .second, .val (.int (0 : Int32)), .val (.int (0 : Int32)), .val (.ref b59), .val (.int (1 : Int32)), .unset, .unset, .unset, .unset] [])
      have bk68 : ∀ t, Steps p.tables e below (T67.setTop (mkF m 60 #[.val (.int p1), .val (.int p2), .val (.long q1), .second, .val (.long q2), .second, .val (.int (0 : Int32)), .val (.int (0 : Int32)), .val (.ref b59), .val (.int (1 : Int32)), .unset, .unset, .unset, .unset] [(.int (0 : Int32)), (.ref b59)])) t → Steps p.tables e below (T67.setTop (mkF m 56 #[.val (.int p1), .val (.int p2), .val (.long q1), .second, .val (.long q2), .second, .val (.int (0 : Int32)), .val (.int (0 : Int32)), .val (.ref b59), .val (.int (1 : Int32)), .unset, .unset, .unset, .unset] [])) t := fun t k => by
        refine XS.aload X67.here hx rfl (hb hby at_56) rfl rfl ?_
        show Steps p.tables e below (T67.setTop (mkF m 58 #[.val (.int p1), .val (.int p2), .val (.long q1), .second, .val (.long q2), .second, .val (.int (0 : Int32)), .val (.int (0 : Int32)), .val (.ref b59), .val (.int (1 : Int32)), .unset, .unset, .unset, .unset] [(.ref b59)])) t
        refine XS.iload X67.here hx rfl (hb hby at_58) rfl ?_
        exact k
      refine WP.st bk68 ?_
      clear bk68
      obtain ⟨cq69, kq69, q69a, q69b, q69c⟩ := isOf hZ e67 E_b59
      obtain ⟨_, _, ⟨T69, L69, k69, n69⟩, -, X69, ⟨Lc69, hQ69, l69, y69, z69⟩, st69⟩ := X67.virtualBack hx (y := (⟨"com/example/skope/skope/xml/Intake", "dropNames", "(Z)V"⟩ : MethodName)) (z := (⟨"com/example/skope/skope/xml/Intake", "dropNames", "(Z)V"⟩ : MethodName)) hown (mvT hZ (hw _ (List.mem_of_getElem? (i := 39) rfl))) (mvT hZ (hw _ (List.mem_of_getElem? (i := 40) rfl))) (notFace_of_selects (args := #[]) (mvT hZ (hw _ (List.mem_of_getElem? (i := 42) rfl)))) (mvT hZ (hw _ (List.mem_of_getElem? (i := 42) rfl))) (mvT hZ (hw _ (List.mem_of_getElem? (i := 41) rfl))) (by decide) (backOf (W := 0) (rm7 l Z a0 hw [] b59 (0 : Int32) (1 : Int32) (own_max (0 : Int32) p2) q1 q2 (0 : Int32) (0 : Int64) (0 : Int64) (0 : Int32) (0 : Int32) (0 : Int32) (0 : Int32) (0 : Int64) h67 n0 Z0 E_b59 g_b59 F_b59_dropsNames F_b59_nesting F_b59_passedOnDeclarations F_b59_passedOnChars F_b59_documentTypeDeclaration F_b59_bytes F_b59_stretch F_b59_started F_b59_internalGeneralEntity F_b59_internalParameterEntity F_b59_attributeList F_b59_declaringBytes (by decide : (0 : Int32) = 0 ∨ (0 : Int32) = 1)) hZ (hw _ (List.mem_of_getElem? (i := 43) rfl)) (hw _ (List.mem_of_getElem? (i := 2) rfl)) (by decide) (by decide)) q69a q69c (g := (mkF m 60 #[.val (.int p1), .val (.int p2), .val (.long q1), .second, .val (.long q2), .second, .val (.int (0 : Int32)), .val (.int (0 : Int32)), .val (.ref b59), .val (.int (1 : Int32)), .unset, .unset, .unset, .unset] [(.int (0 : Int32)), (.ref b59)])) rfl (by rw [hml]; rfl) (Steps.refl _) (argsL := [(.int (0 : Int32))]) (rest := []) (lenOf pd_5 rfl) rfl (by show 2 * 0 + _ ≤ _; exact Nat.le_of_eq rfl) (hb hby at_60) (fun _ _ => ⟨rfl, e67, (by decide : 2 + 0 ≤ _), (by decide : 15 + 0 ≤ _)⟩)
      dsimp only [Pt.U, Pt.locs, Pt.cells, Pt.slots] at X69 l69 y69 z69 st69 hQ69
      subst l69 y69 z69
      obtain ⟨rfl, Nq69, Kq69, nF69_b59_dropsNames, nF69_b59_nesting, nF69_b59_passedOnDeclarations, nF69_b59_passedOnChars, nF69_b59_documentTypeDeclaration, nF69_b59_bytes, nF69_b59_stretch, nF69_b59_started, nF69_b59_internalGeneralEntity, nF69_b59_internalParameterEntity, nF69_b59_attributeList, nF69_b59_declaringBytes⟩ := hQ69
      replace NF := Fr.app NF Nq69
      clear Nq69
      refine WP.tr st69 ?_
      clear st69
      obtain ⟨h69, e69⟩ : ∃ h, T69.heap = h := ⟨_, rfl⟩
      rw [e69] at Kq69 nF69_b59_dropsNames nF69_b59_nesting nF69_b59_passedOnDeclarations nF69_b59_passedOnChars nF69_b59_documentTypeDeclaration nF69_b59_bytes nF69_b59_stretch nF69_b59_started nF69_b59_internalGeneralEntity nF69_b59_internalParameterEntity nF69_b59_attributeList nF69_b59_declaringBytes
      replace E_b59 := E_b59.keep Kq69
      clear F_b59_dropsNames
      clear F_b59_nesting
      clear F_b59_passedOnDeclarations
      clear F_b59_passedOnChars
      clear F_b59_documentTypeDeclaration
      clear F_b59_bytes
      clear F_b59_stretch
      clear F_b59_started
      clear F_b59_internalGeneralEntity
      clear F_b59_internalParameterEntity
      clear F_b59_attributeList
      clear F_b59_declaringBytes
      replace Z0 := Nat.le_trans Z0 Kq69.1
      clear Kq69
      have F_b59_dropsNames := nF69_b59_dropsNames
      clear nF69_b59_dropsNames
      have F_b59_nesting := nF69_b59_nesting
      clear nF69_b59_nesting
      have F_b59_passedOnDeclarations := nF69_b59_passedOnDeclarations
      clear nF69_b59_passedOnDeclarations
      have F_b59_passedOnChars := nF69_b59_passedOnChars
      clear nF69_b59_passedOnChars
      have F_b59_documentTypeDeclaration := nF69_b59_documentTypeDeclaration
      clear nF69_b59_documentTypeDeclaration
      have F_b59_bytes := nF69_b59_bytes
      clear nF69_b59_bytes
      have F_b59_stretch := nF69_b59_stretch
      clear nF69_b59_stretch
      have F_b59_started := nF69_b59_started
      clear nF69_b59_started
      have F_b59_internalGeneralEntity := nF69_b59_internalGeneralEntity
      clear nF69_b59_internalGeneralEntity
      have F_b59_internalParameterEntity := nF69_b59_internalParameterEntity
      clear nF69_b59_internalParameterEntity
      have F_b59_attributeList := nF69_b59_attributeList
      clear nF69_b59_attributeList
      have F_b59_declaringBytes := nF69_b59_declaringBytes
      clear nF69_b59_declaringBytes
      show WP p.tables e below _ T69 (mkF m 63 #[.val (.int p1), .val (.int p2), .val (.long q1), .second, .val (.long q2), .second, .val (.int (0 : Int32)), .val (.int (0 : Int32)), .val (.ref b59), .val (.int (1 : Int32)), .unset, .unset, .unset, .unset] [])
      have bk70 : ∀ t, Steps p.tables e below (T69.setTop (mkF m 65 #[.val (.int p1), .val (.int p2), .val (.long q1), .second, .val (.long q2), .second, .val (.int (0 : Int32)), .val (.int (0 : Int32)), .val (.ref b59), .val (.int (1 : Int32)), .unset, .unset, .unset, .unset] [(.ref b59)])) t → Steps p.tables e below (T69.setTop (mkF m 63 #[.val (.int p1), .val (.int p2), .val (.long q1), .second, .val (.long q2), .second, .val (.int (0 : Int32)), .val (.int (0 : Int32)), .val (.ref b59), .val (.int (1 : Int32)), .unset, .unset, .unset, .unset] [])) t := fun t k => by
        refine XS.aload X69.here hx rfl (hb hby at_63) rfl rfl ?_
        exact k
      refine WP.st bk70 ?_
      clear bk70
      obtain ⟨cq71, kq71, q71a, q71b, q71c⟩ := isOf hZ e69 E_b59
      obtain ⟨_, _, ⟨T71, L71, k71, n71⟩, -, X71, ⟨Lc71, hQ71, l71, y71, z71⟩, st71⟩ := X69.virtualBack hx (y := (⟨"com/example/skope/skope/xml/Intake", "dropsNames", "()Z"⟩ : MethodName)) (z := (⟨"com/example/skope/skope/xml/Intake", "dropsNames", "()Z"⟩ : MethodName)) hown (mvT hZ (hw _ (List.mem_of_getElem? (i := 14) rfl))) (mvT hZ (hw _ (List.mem_of_getElem? (i := 15) rfl))) (notFace_of_selects (args := #[]) (mvT hZ (hw _ (List.mem_of_getElem? (i := 17) rfl)))) (mvT hZ (hw _ (List.mem_of_getElem? (i := 17) rfl))) (mvT hZ (hw _ (List.mem_of_getElem? (i := 16) rfl))) (by decide) (backOf (W := 0) (rm3 l Z a0 hw [] b59 (0 : Int32) h69 n0 Z0 F_b59_dropsNames) hZ (hw _ (List.mem_of_getElem? (i := 18) rfl)) (hw _ (List.mem_of_getElem? (i := 2) rfl)) (by decide) (by decide)) q71a q71c (g := (mkF m 65 #[.val (.int p1), .val (.int p2), .val (.long q1), .second, .val (.long q2), .second, .val (.int (0 : Int32)), .val (.int (0 : Int32)), .val (.ref b59), .val (.int (1 : Int32)), .unset, .unset, .unset, .unset] [(.ref b59)])) rfl (by rw [hml]; rfl) (Steps.refl _) (argsL := []) (rest := []) (lenOf pd_2 rfl) rfl (by show 2 * 0 + _ ≤ _; exact Nat.le_of_eq rfl) (hb hby at_65) (fun _ _ => ⟨rfl, e69, (by decide : 2 + 0 ≤ _), (by decide : 15 + 0 ≤ _)⟩)
      dsimp only [Pt.U, Pt.locs, Pt.cells, Pt.slots] at X71 l71 y71 z71 st71 hQ71
      subst l71 y71 z71
      obtain ⟨rfl, Nq71, Kq71⟩ := hQ71
      replace NF := Fr.app NF Nq71
      clear Nq71
      refine WP.tr st71 ?_
      clear st71
      replace Kq71 := Kq71.trans (rfl : h69 = h69)
      show WP p.tables e below _ T71 (mkF m 68 #[.val (.int p1), .val (.int p2), .val (.long q1), .second, .val (.long q2), .second, .val (.int (0 : Int32)), .val (.int (0 : Int32)), .val (.ref b59), .val (.int (1 : Int32)), .unset, .unset, .unset, .unset] [(.int (nar .boolean (0 : Int32)))])
      rw [show (nar .boolean (0 : Int32)) = (0 : Int32) from by decide]
      show WP p.tables e below _ T71 (mkF m 68 #[.val (.int p1), .val (.int p2), .val (.long q1), .second, .val (.long q2), .second, .val (.int (0 : Int32)), .val (.int (0 : Int32)), .val (.ref b59), .val (.int (1 : Int32)), .unset, .unset, .unset, .unset] [(.int (0 : Int32))])
      have bk72 : ∀ t, Steps p.tables e below (T71.setTop (mkF m 82 #[.val (.int p1), .val (.int p2), .val (.long q1), .second, .val (.long q2), .second, .val (.int (0 : Int32)), .val (.int (0 : Int32)), .val (.ref b59), .val (.int (1 : Int32)), .val (.int (1 : Int32)), .unset, .unset, .unset] [(.ref b59)])) t → Steps p.tables e below (T71.setTop (mkF m 68 #[.val (.int p1), .val (.int p2), .val (.long q1), .second, .val (.long q2), .second, .val (.int (0 : Int32)), .val (.int (0 : Int32)), .val (.ref b59), .val (.int (1 : Int32)), .unset, .unset, .unset, .unset] [(.int (0 : Int32))])) t := fun t k => by
        refine XS.iload X71.here hx rfl (hb hby at_68) rfl ?_
        show Steps p.tables e below (T71.setTop (mkF m 70 #[.val (.int p1), .val (.int p2), .val (.long q1), .second, .val (.long q2), .second, .val (.int (0 : Int32)), .val (.int (0 : Int32)), .val (.ref b59), .val (.int (1 : Int32)), .unset, .unset, .unset, .unset] [(.int (0 : Int32)), (.int (0 : Int32))])) t
        refine XS.icmpNo X71.here hx rfl (hb hby at_70) rfl (teq (by decide : (0 : Int32) = (0 : Int32))).2 ?_
        show Steps p.tables e below (T71.setTop (mkF m 73 #[.val (.int p1), .val (.int p2), .val (.long q1), .second, .val (.long q2), .second, .val (.int (0 : Int32)), .val (.int (0 : Int32)), .val (.ref b59), .val (.int (1 : Int32)), .unset, .unset, .unset, .unset] [])) t
        refine XS.iconst X71.here hx rfl (hb hby at_73) ?_
        show Steps p.tables e below (T71.setTop (mkF m 74 #[.val (.int p1), .val (.int p2), .val (.long q1), .second, .val (.long q2), .second, .val (.int (0 : Int32)), .val (.int (0 : Int32)), .val (.ref b59), .val (.int (1 : Int32)), .unset, .unset, .unset, .unset] [(.int (1 : Int32))])) t
        refine XS.goto X71.here hx rfl (pc0 := 74) (pc' := 78) rfl (hb hby at_74) (by decide) (by decide) ?_
        show Steps p.tables e below (T71.setTop (mkF m 78 #[.val (.int p1), .val (.int p2), .val (.long q1), .second, .val (.long q2), .second, .val (.int (0 : Int32)), .val (.int (0 : Int32)), .val (.ref b59), .val (.int (1 : Int32)), .unset, .unset, .unset, .unset] [(.int (1 : Int32))])) t
        refine XS.istore X71.here hx rfl (hb hby at_78) rfl (l' := #[.val (.int p1), .val (.int p2), .val (.long q1), .second, .val (.long q2), .second, .val (.int (0 : Int32)), .val (.int (0 : Int32)), .val (.ref b59), .val (.int (1 : Int32)), .val (.int (1 : Int32)), .unset, .unset, .unset]) rfl ?_
        show Steps p.tables e below (T71.setTop (mkF m 80 #[.val (.int p1), .val (.int p2), .val (.long q1), .second, .val (.long q2), .second, .val (.int (0 : Int32)), .val (.int (0 : Int32)), .val (.ref b59), .val (.int (1 : Int32)), .val (.int (1 : Int32)), .unset, .unset, .unset] [])) t
        refine XS.aload X71.here hx rfl (hb hby at_80) rfl rfl ?_
        exact k
      refine WP.st bk72 ?_
      clear bk72
      obtain ⟨cq73, kq73, q73a, q73b, q73c⟩ := isOf hZ Kq71 E_b59
      obtain ⟨_, _, ⟨T73, L73, k73, n73⟩, -, X73, ⟨Lc73, hQ73, l73, y73, z73⟩, st73⟩ := X71.virtualBack hx (y := (⟨"com/example/skope/skope/xml/Intake", "clear", "()V"⟩ : MethodName)) (z := (⟨"com/example/skope/skope/xml/Intake", "clear", "()V"⟩ : MethodName)) hown (mvT hZ (hw _ (List.mem_of_getElem? (i := 44) rfl))) (mvT hZ (hw _ (List.mem_of_getElem? (i := 45) rfl))) (notFace_of_selects (args := #[]) (mvT hZ (hw _ (List.mem_of_getElem? (i := 47) rfl)))) (mvT hZ (hw _ (List.mem_of_getElem? (i := 47) rfl))) (mvT hZ (hw _ (List.mem_of_getElem? (i := 46) rfl))) (by decide) (backOf (W := 0) (rm8 l Z a0 hw [] b59 (0 : Int32) (own_max (0 : Int32) p2) q1 q2 (0 : Int32) (0 : Int64) (0 : Int64) (0 : Int32) (0 : Int32) (0 : Int32) (0 : Int32) (if (0 : Int32) = 0 then (0 : Int64) else 0) h69 n0 Z0 E_b59 g_b59 F_b59_dropsNames F_b59_nesting F_b59_passedOnDeclarations F_b59_passedOnChars F_b59_documentTypeDeclaration F_b59_bytes F_b59_stretch F_b59_started F_b59_internalGeneralEntity F_b59_internalParameterEntity F_b59_attributeList F_b59_declaringBytes (by decide : (0 : Int32) = (0 : Int32))) hZ (hw _ (List.mem_of_getElem? (i := 48) rfl)) (hw _ (List.mem_of_getElem? (i := 2) rfl)) (by decide) (by decide)) q73a q73c (g := (mkF m 82 #[.val (.int p1), .val (.int p2), .val (.long q1), .second, .val (.long q2), .second, .val (.int (0 : Int32)), .val (.int (0 : Int32)), .val (.ref b59), .val (.int (1 : Int32)), .val (.int (1 : Int32)), .unset, .unset, .unset] [(.ref b59)])) rfl (by rw [hml]; rfl) (Steps.refl _) (argsL := []) (rest := []) (lenOf pd_1 rfl) rfl (by show 2 * 0 + _ ≤ _; exact Nat.le_of_eq rfl) (hb hby at_82) (fun _ _ => ⟨rfl, Kq71, (by decide : 2 + 0 ≤ _), (by decide : 15 + 0 ≤ _)⟩)
      dsimp only [Pt.U, Pt.locs, Pt.cells, Pt.slots] at X73 l73 y73 z73 st73 hQ73
      subst l73 y73 z73
      obtain ⟨rfl, Nq73, Kq73, nF73_b59_dropsNames, nF73_b59_nesting, nF73_b59_passedOnDeclarations, nF73_b59_passedOnChars, nF73_b59_documentTypeDeclaration, nF73_b59_bytes, nF73_b59_stretch, nF73_b59_started, nF73_b59_internalGeneralEntity, nF73_b59_internalParameterEntity, nF73_b59_attributeList, nF73_b59_declaringBytes⟩ := hQ73
      replace NF := Fr.app NF Nq73
      clear Nq73
      refine WP.tr st73 ?_
      clear st73
      obtain ⟨h73, e73⟩ : ∃ h, T73.heap = h := ⟨_, rfl⟩
      rw [e73] at Kq73 nF73_b59_dropsNames nF73_b59_nesting nF73_b59_passedOnDeclarations nF73_b59_passedOnChars nF73_b59_documentTypeDeclaration nF73_b59_bytes nF73_b59_stretch nF73_b59_started nF73_b59_internalGeneralEntity nF73_b59_internalParameterEntity nF73_b59_attributeList nF73_b59_declaringBytes
      replace E_b59 := E_b59.keep Kq73
      clear F_b59_dropsNames
      clear F_b59_nesting
      clear F_b59_passedOnDeclarations
      clear F_b59_passedOnChars
      clear F_b59_documentTypeDeclaration
      clear F_b59_bytes
      clear F_b59_stretch
      clear F_b59_started
      clear F_b59_internalGeneralEntity
      clear F_b59_internalParameterEntity
      clear F_b59_attributeList
      clear F_b59_declaringBytes
      replace Z0 := Nat.le_trans Z0 Kq73.1
      clear Kq73
      have F_b59_dropsNames := nF73_b59_dropsNames
      clear nF73_b59_dropsNames
      have F_b59_nesting := nF73_b59_nesting
      clear nF73_b59_nesting
      have F_b59_passedOnDeclarations := nF73_b59_passedOnDeclarations
      clear nF73_b59_passedOnDeclarations
      have F_b59_passedOnChars := nF73_b59_passedOnChars
      clear nF73_b59_passedOnChars
      have F_b59_documentTypeDeclaration := nF73_b59_documentTypeDeclaration
      clear nF73_b59_documentTypeDeclaration
      have F_b59_bytes := nF73_b59_bytes
      clear nF73_b59_bytes
      have F_b59_stretch := nF73_b59_stretch
      clear nF73_b59_stretch
      have F_b59_started := nF73_b59_started
      clear nF73_b59_started
      have F_b59_internalGeneralEntity := nF73_b59_internalGeneralEntity
      clear nF73_b59_internalGeneralEntity
      have F_b59_internalParameterEntity := nF73_b59_internalParameterEntity
      clear nF73_b59_internalParameterEntity
      have F_b59_attributeList := nF73_b59_attributeList
      clear nF73_b59_attributeList
      have F_b59_declaringBytes := nF73_b59_declaringBytes
      clear nF73_b59_declaringBytes
      show WP p.tables e below _ T73 (mkF m 85 #[.val (.int p1), .val (.int p2), .val (.long q1), .second, .val (.long q2), .second, .val (.int (0 : Int32)), .val (.int (0 : Int32)), .val (.ref b59), .val (.int (1 : Int32)), .val (.int (1 : Int32)), .unset, .unset, .unset] [])
      have bk74 : ∀ t, Steps p.tables e below (T73.setTop (mkF m 87 #[.val (.int p1), .val (.int p2), .val (.long q1), .second, .val (.long q2), .second, .val (.int (0 : Int32)), .val (.int (0 : Int32)), .val (.ref b59), .val (.int (1 : Int32)), .val (.int (1 : Int32)), .unset, .unset, .unset] [(.ref b59)])) t → Steps p.tables e below (T73.setTop (mkF m 85 #[.val (.int p1), .val (.int p2), .val (.long q1), .second, .val (.long q2), .second, .val (.int (0 : Int32)), .val (.int (0 : Int32)), .val (.ref b59), .val (.int (1 : Int32)), .val (.int (1 : Int32)), .unset, .unset, .unset] [])) t := fun t k => by
        refine XS.aload X73.here hx rfl (hb hby at_85) rfl rfl ?_
        exact k
      refine WP.st bk74 ?_
      clear bk74
      obtain ⟨cq75, kq75, q75a, q75b, q75c⟩ := isOf hZ e73 E_b59
      obtain ⟨_, _, ⟨T75, L75, k75, n75⟩, -, X75, ⟨Lc75, hQ75, l75, y75, z75⟩, st75⟩ := X73.virtualBack hx (y := (⟨"com/example/skope/skope/xml/Intake", "dropsNames", "()Z"⟩ : MethodName)) (z := (⟨"com/example/skope/skope/xml/Intake", "dropsNames", "()Z"⟩ : MethodName)) hown (mvT hZ (hw _ (List.mem_of_getElem? (i := 14) rfl))) (mvT hZ (hw _ (List.mem_of_getElem? (i := 15) rfl))) (notFace_of_selects (args := #[]) (mvT hZ (hw _ (List.mem_of_getElem? (i := 17) rfl)))) (mvT hZ (hw _ (List.mem_of_getElem? (i := 17) rfl))) (mvT hZ (hw _ (List.mem_of_getElem? (i := 16) rfl))) (by decide) (backOf (W := 0) (rm3 l Z a0 hw [] b59 (0 : Int32) h73 n0 Z0 F_b59_dropsNames) hZ (hw _ (List.mem_of_getElem? (i := 18) rfl)) (hw _ (List.mem_of_getElem? (i := 2) rfl)) (by decide) (by decide)) q75a q75c (g := (mkF m 87 #[.val (.int p1), .val (.int p2), .val (.long q1), .second, .val (.long q2), .second, .val (.int (0 : Int32)), .val (.int (0 : Int32)), .val (.ref b59), .val (.int (1 : Int32)), .val (.int (1 : Int32)), .unset, .unset, .unset] [(.ref b59)])) rfl (by rw [hml]; rfl) (Steps.refl _) (argsL := []) (rest := []) (lenOf pd_2 rfl) rfl (by show 2 * 0 + _ ≤ _; exact Nat.le_of_eq rfl) (hb hby at_87) (fun _ _ => ⟨rfl, e73, (by decide : 2 + 0 ≤ _), (by decide : 15 + 0 ≤ _)⟩)
      dsimp only [Pt.U, Pt.locs, Pt.cells, Pt.slots] at X75 l75 y75 z75 st75 hQ75
      subst l75 y75 z75
      obtain ⟨rfl, Nq75, Kq75⟩ := hQ75
      replace NF := Fr.app NF Nq75
      clear Nq75
      refine WP.tr st75 ?_
      clear st75
      replace Kq75 := Kq75.trans (rfl : h73 = h73)
      show WP p.tables e below _ T75 (mkF m 90 #[.val (.int p1), .val (.int p2), .val (.long q1), .second, .val (.long q2), .second, .val (.int (0 : Int32)), .val (.int (0 : Int32)), .val (.ref b59), .val (.int (1 : Int32)), .val (.int (1 : Int32)), .unset, .unset, .unset] [(.int (nar .boolean (0 : Int32)))])
      rw [show (nar .boolean (0 : Int32)) = (0 : Int32) from by decide]
      show WP p.tables e below _ T75 (mkF m 90 #[.val (.int p1), .val (.int p2), .val (.long q1), .second, .val (.long q2), .second, .val (.int (0 : Int32)), .val (.int (0 : Int32)), .val (.ref b59), .val (.int (1 : Int32)), .val (.int (1 : Int32)), .unset, .unset, .unset] [(.int (0 : Int32))])
      have bk76 : ∀ t, Steps p.tables e below (T75.setTop (mkF m 106 #[.val (.int p1), .val (.int p2), .val (.long q1), .second, .val (.long q2), .second, .val (.int (0 : Int32)), .val (.int (0 : Int32)), .val (.ref b59), .val (.int (1 : Int32)), .val (.int (1 : Int32)), .val (.int (1 : Int32)), .unset, .unset] [(.int (0 : Int32)), (.ref b59)])) t → Steps p.tables e below (T75.setTop (mkF m 90 #[.val (.int p1), .val (.int p2), .val (.long q1), .second, .val (.long q2), .second, .val (.int (0 : Int32)), .val (.int (0 : Int32)), .val (.ref b59), .val (.int (1 : Int32)), .val (.int (1 : Int32)), .unset, .unset, .unset] [(.int (0 : Int32))])) t := fun t k => by
        refine XS.iload X75.here hx rfl (hb hby at_90) rfl ?_
        show Steps p.tables e below (T75.setTop (mkF m 92 #[.val (.int p1), .val (.int p2), .val (.long q1), .second, .val (.long q2), .second, .val (.int (0 : Int32)), .val (.int (0 : Int32)), .val (.ref b59), .val (.int (1 : Int32)), .val (.int (1 : Int32)), .unset, .unset, .unset] [(.int (0 : Int32)), (.int (0 : Int32))])) t
        refine XS.icmpNo X75.here hx rfl (hb hby at_92) rfl (teq (by decide : (0 : Int32) = (0 : Int32))).2 ?_
        show Steps p.tables e below (T75.setTop (mkF m 95 #[.val (.int p1), .val (.int p2), .val (.long q1), .second, .val (.long q2), .second, .val (.int (0 : Int32)), .val (.int (0 : Int32)), .val (.ref b59), .val (.int (1 : Int32)), .val (.int (1 : Int32)), .unset, .unset, .unset] [])) t
        refine XS.iconst X75.here hx rfl (hb hby at_95) ?_
        show Steps p.tables e below (T75.setTop (mkF m 96 #[.val (.int p1), .val (.int p2), .val (.long q1), .second, .val (.long q2), .second, .val (.int (0 : Int32)), .val (.int (0 : Int32)), .val (.ref b59), .val (.int (1 : Int32)), .val (.int (1 : Int32)), .unset, .unset, .unset] [(.int (1 : Int32))])) t
        refine XS.goto X75.here hx rfl (pc0 := 96) (pc' := 100) rfl (hb hby at_96) (by decide) (by decide) ?_
        show Steps p.tables e below (T75.setTop (mkF m 100 #[.val (.int p1), .val (.int p2), .val (.long q1), .second, .val (.long q2), .second, .val (.int (0 : Int32)), .val (.int (0 : Int32)), .val (.ref b59), .val (.int (1 : Int32)), .val (.int (1 : Int32)), .unset, .unset, .unset] [(.int (1 : Int32))])) t
        refine XS.istore X75.here hx rfl (hb hby at_100) rfl (l' := #[.val (.int p1), .val (.int p2), .val (.long q1), .second, .val (.long q2), .second, .val (.int (0 : Int32)), .val (.int (0 : Int32)), .val (.ref b59), .val (.int (1 : Int32)), .val (.int (1 : Int32)), .val (.int (1 : Int32)), .unset, .unset]) rfl ?_
        show Steps p.tables e below (T75.setTop (mkF m 102 #[.val (.int p1), .val (.int p2), .val (.long q1), .second, .val (.long q2), .second, .val (.int (0 : Int32)), .val (.int (0 : Int32)), .val (.ref b59), .val (.int (1 : Int32)), .val (.int (1 : Int32)), .val (.int (1 : Int32)), .unset, .unset] [])) t
        refine XS.aload X75.here hx rfl (hb hby at_102) rfl rfl ?_
        show Steps p.tables e below (T75.setTop (mkF m 104 #[.val (.int p1), .val (.int p2), .val (.long q1), .second, .val (.long q2), .second, .val (.int (0 : Int32)), .val (.int (0 : Int32)), .val (.ref b59), .val (.int (1 : Int32)), .val (.int (1 : Int32)), .val (.int (1 : Int32)), .unset, .unset] [(.ref b59)])) t
        refine XS.iload X75.here hx rfl (hb hby at_104) rfl ?_
        exact k
      refine WP.st bk76 ?_
      clear bk76
      obtain ⟨cq77, kq77, q77a, q77b, q77c⟩ := isOf hZ Kq75 E_b59
      obtain ⟨_, _, ⟨T77, L77, k77, n77⟩, -, X77, ⟨Lc77, hQ77, l77, y77, z77⟩, st77⟩ := X75.virtualBack hx (y := (⟨"com/example/skope/skope/xml/Intake", "dropNames", "(Z)V"⟩ : MethodName)) (z := (⟨"com/example/skope/skope/xml/Intake", "dropNames", "(Z)V"⟩ : MethodName)) hown (mvT hZ (hw _ (List.mem_of_getElem? (i := 39) rfl))) (mvT hZ (hw _ (List.mem_of_getElem? (i := 40) rfl))) (notFace_of_selects (args := #[]) (mvT hZ (hw _ (List.mem_of_getElem? (i := 42) rfl)))) (mvT hZ (hw _ (List.mem_of_getElem? (i := 42) rfl))) (mvT hZ (hw _ (List.mem_of_getElem? (i := 41) rfl))) (by decide) (backOf (W := 0) (rm7 l Z a0 hw [] b59 (0 : Int32) (0 : Int32) (own_max (0 : Int32) p2) q1 q2 (0 : Int32) (0 : Int64) (0 : Int64) (0 : Int32) (0 : Int32) (0 : Int32) (0 : Int32) (if (0 : Int32) = 0 then (0 : Int64) else 0) h73 n0 Z0 E_b59 g_b59 F_b59_dropsNames F_b59_nesting F_b59_passedOnDeclarations F_b59_passedOnChars F_b59_documentTypeDeclaration F_b59_bytes F_b59_stretch F_b59_started F_b59_internalGeneralEntity F_b59_internalParameterEntity F_b59_attributeList F_b59_declaringBytes (by decide : (0 : Int32) = 0 ∨ (0 : Int32) = 1)) hZ (hw _ (List.mem_of_getElem? (i := 43) rfl)) (hw _ (List.mem_of_getElem? (i := 2) rfl)) (by decide) (by decide)) q77a q77c (g := (mkF m 106 #[.val (.int p1), .val (.int p2), .val (.long q1), .second, .val (.long q2), .second, .val (.int (0 : Int32)), .val (.int (0 : Int32)), .val (.ref b59), .val (.int (1 : Int32)), .val (.int (1 : Int32)), .val (.int (1 : Int32)), .unset, .unset] [(.int (0 : Int32)), (.ref b59)])) rfl (by rw [hml]; rfl) (Steps.refl _) (argsL := [(.int (0 : Int32))]) (rest := []) (lenOf pd_5 rfl) rfl (by show 2 * 0 + _ ≤ _; exact Nat.le_of_eq rfl) (hb hby at_106) (fun _ _ => ⟨rfl, Kq75, (by decide : 2 + 0 ≤ _), (by decide : 15 + 0 ≤ _)⟩)
      dsimp only [Pt.U, Pt.locs, Pt.cells, Pt.slots] at X77 l77 y77 z77 st77 hQ77
      subst l77 y77 z77
      obtain ⟨rfl, Nq77, Kq77, nF77_b59_dropsNames, nF77_b59_nesting, nF77_b59_passedOnDeclarations, nF77_b59_passedOnChars, nF77_b59_documentTypeDeclaration, nF77_b59_bytes, nF77_b59_stretch, nF77_b59_started, nF77_b59_internalGeneralEntity, nF77_b59_internalParameterEntity, nF77_b59_attributeList, nF77_b59_declaringBytes⟩ := hQ77
      replace NF := Fr.app NF Nq77
      clear Nq77
      refine WP.tr st77 ?_
      clear st77
      obtain ⟨h77, e77⟩ : ∃ h, T77.heap = h := ⟨_, rfl⟩
      rw [e77] at Kq77 nF77_b59_dropsNames nF77_b59_nesting nF77_b59_passedOnDeclarations nF77_b59_passedOnChars nF77_b59_documentTypeDeclaration nF77_b59_bytes nF77_b59_stretch nF77_b59_started nF77_b59_internalGeneralEntity nF77_b59_internalParameterEntity nF77_b59_attributeList nF77_b59_declaringBytes
      replace E_b59 := E_b59.keep Kq77
      clear F_b59_dropsNames
      clear F_b59_nesting
      clear F_b59_passedOnDeclarations
      clear F_b59_passedOnChars
      clear F_b59_documentTypeDeclaration
      clear F_b59_bytes
      clear F_b59_stretch
      clear F_b59_started
      clear F_b59_internalGeneralEntity
      clear F_b59_internalParameterEntity
      clear F_b59_attributeList
      clear F_b59_declaringBytes
      replace Z0 := Nat.le_trans Z0 Kq77.1
      clear Kq77
      have F_b59_dropsNames := nF77_b59_dropsNames
      clear nF77_b59_dropsNames
      have F_b59_nesting := nF77_b59_nesting
      clear nF77_b59_nesting
      have F_b59_passedOnDeclarations := nF77_b59_passedOnDeclarations
      clear nF77_b59_passedOnDeclarations
      have F_b59_passedOnChars := nF77_b59_passedOnChars
      clear nF77_b59_passedOnChars
      have F_b59_documentTypeDeclaration := nF77_b59_documentTypeDeclaration
      clear nF77_b59_documentTypeDeclaration
      have F_b59_bytes := nF77_b59_bytes
      clear nF77_b59_bytes
      have F_b59_stretch := nF77_b59_stretch
      clear nF77_b59_stretch
      have F_b59_started := nF77_b59_started
      clear nF77_b59_started
      have F_b59_internalGeneralEntity := nF77_b59_internalGeneralEntity
      clear nF77_b59_internalGeneralEntity
      have F_b59_internalParameterEntity := nF77_b59_internalParameterEntity
      clear nF77_b59_internalParameterEntity
      have F_b59_attributeList := nF77_b59_attributeList
      clear nF77_b59_attributeList
      have F_b59_declaringBytes := nF77_b59_declaringBytes
      clear nF77_b59_declaringBytes
      show WP p.tables e below _ T77 (mkF m 109 #[.val (.int p1), .val (.int p2), .val (.long q1), .second, .val (.long q2), .second, .val (.int (0 : Int32)), .val (.int (0 : Int32)), .val (.ref b59), .val (.int (1 : Int32)), .val (.int (1 : Int32)), .val (.int (1 : Int32)), .unset, .unset] [])
      have bk78 : ∀ t, Steps p.tables e below (T77.setTop (mkF m 111 #[.val (.int p1), .val (.int p2), .val (.long q1), .second, .val (.long q2), .second, .val (.int (0 : Int32)), .val (.int (0 : Int32)), .val (.ref b59), .val (.int (1 : Int32)), .val (.int (1 : Int32)), .val (.int (1 : Int32)), .unset, .unset] [(.ref b59)])) t → Steps p.tables e below (T77.setTop (mkF m 109 #[.val (.int p1), .val (.int p2), .val (.long q1), .second, .val (.long q2), .second, .val (.int (0 : Int32)), .val (.int (0 : Int32)), .val (.ref b59), .val (.int (1 : Int32)), .val (.int (1 : Int32)), .val (.int (1 : Int32)), .unset, .unset] [])) t := fun t k => by
        refine XS.aload X77.here hx rfl (hb hby at_109) rfl rfl ?_
        exact k
      refine WP.st bk78 ?_
      clear bk78
      obtain ⟨cq79, kq79, q79a, q79b, q79c⟩ := isOf hZ e77 E_b59
      obtain ⟨_, _, ⟨T79, L79, k79, n79⟩, -, X79, ⟨Lc79, hQ79, l79, y79, z79⟩, st79⟩ := X77.virtualBack hx (y := (⟨"com/example/skope/skope/xml/Intake", "dropsNames", "()Z"⟩ : MethodName)) (z := (⟨"com/example/skope/skope/xml/Intake", "dropsNames", "()Z"⟩ : MethodName)) hown (mvT hZ (hw _ (List.mem_of_getElem? (i := 14) rfl))) (mvT hZ (hw _ (List.mem_of_getElem? (i := 15) rfl))) (notFace_of_selects (args := #[]) (mvT hZ (hw _ (List.mem_of_getElem? (i := 17) rfl)))) (mvT hZ (hw _ (List.mem_of_getElem? (i := 17) rfl))) (mvT hZ (hw _ (List.mem_of_getElem? (i := 16) rfl))) (by decide) (backOf (W := 0) (rm3 l Z a0 hw [] b59 (0 : Int32) h77 n0 Z0 F_b59_dropsNames) hZ (hw _ (List.mem_of_getElem? (i := 18) rfl)) (hw _ (List.mem_of_getElem? (i := 2) rfl)) (by decide) (by decide)) q79a q79c (g := (mkF m 111 #[.val (.int p1), .val (.int p2), .val (.long q1), .second, .val (.long q2), .second, .val (.int (0 : Int32)), .val (.int (0 : Int32)), .val (.ref b59), .val (.int (1 : Int32)), .val (.int (1 : Int32)), .val (.int (1 : Int32)), .unset, .unset] [(.ref b59)])) rfl (by rw [hml]; rfl) (Steps.refl _) (argsL := []) (rest := []) (lenOf pd_2 rfl) rfl (by show 2 * 0 + _ ≤ _; exact Nat.le_of_eq rfl) (hb hby at_111) (fun _ _ => ⟨rfl, e77, (by decide : 2 + 0 ≤ _), (by decide : 15 + 0 ≤ _)⟩)
      dsimp only [Pt.U, Pt.locs, Pt.cells, Pt.slots] at X79 l79 y79 z79 st79 hQ79
      subst l79 y79 z79
      obtain ⟨rfl, Nq79, Kq79⟩ := hQ79
      replace NF := Fr.app NF Nq79
      clear Nq79
      refine WP.tr st79 ?_
      clear st79
      replace Kq79 := Kq79.trans (rfl : h77 = h77)
      show WP p.tables e below _ T79 (mkF m 114 #[.val (.int p1), .val (.int p2), .val (.long q1), .second, .val (.long q2), .second, .val (.int (0 : Int32)), .val (.int (0 : Int32)), .val (.ref b59), .val (.int (1 : Int32)), .val (.int (1 : Int32)), .val (.int (1 : Int32)), .unset, .unset] [(.int (nar .boolean (0 : Int32)))])
      rw [show (nar .boolean (0 : Int32)) = (0 : Int32) from by decide]
      show WP p.tables e below _ T79 (mkF m 114 #[.val (.int p1), .val (.int p2), .val (.long q1), .second, .val (.long q2), .second, .val (.int (0 : Int32)), .val (.int (0 : Int32)), .val (.ref b59), .val (.int (1 : Int32)), .val (.int (1 : Int32)), .val (.int (1 : Int32)), .unset, .unset] [(.int (0 : Int32))])
      have bk80 : ∀ t, Steps p.tables e below (T79.setTop (mkF m 128 #[.val (.int p1), .val (.int p2), .val (.long q1), .second, .val (.long q2), .second, .val (.int (0 : Int32)), .val (.int (0 : Int32)), .val (.ref b59), .val (.int (1 : Int32)), .val (.int (1 : Int32)), .val (.int (1 : Int32)), .val (.int (1 : Int32)), .unset] [(.ref b59)])) t → Steps p.tables e below (T79.setTop (mkF m 114 #[.val (.int p1), .val (.int p2), .val (.long q1), .second, .val (.long q2), .second, .val (.int (0 : Int32)), .val (.int (0 : Int32)), .val (.ref b59), .val (.int (1 : Int32)), .val (.int (1 : Int32)), .val (.int (1 : Int32)), .unset, .unset] [(.int (0 : Int32))])) t := fun t k => by
        refine XS.iload X79.here hx rfl (hb hby at_114) rfl ?_
        show Steps p.tables e below (T79.setTop (mkF m 116 #[.val (.int p1), .val (.int p2), .val (.long q1), .second, .val (.long q2), .second, .val (.int (0 : Int32)), .val (.int (0 : Int32)), .val (.ref b59), .val (.int (1 : Int32)), .val (.int (1 : Int32)), .val (.int (1 : Int32)), .unset, .unset] [(.int (0 : Int32)), (.int (0 : Int32))])) t
        refine XS.icmpNo X79.here hx rfl (hb hby at_116) rfl (teq (by decide : (0 : Int32) = (0 : Int32))).2 ?_
        show Steps p.tables e below (T79.setTop (mkF m 119 #[.val (.int p1), .val (.int p2), .val (.long q1), .second, .val (.long q2), .second, .val (.int (0 : Int32)), .val (.int (0 : Int32)), .val (.ref b59), .val (.int (1 : Int32)), .val (.int (1 : Int32)), .val (.int (1 : Int32)), .unset, .unset] [])) t
        refine XS.iconst X79.here hx rfl (hb hby at_119) ?_
        show Steps p.tables e below (T79.setTop (mkF m 120 #[.val (.int p1), .val (.int p2), .val (.long q1), .second, .val (.long q2), .second, .val (.int (0 : Int32)), .val (.int (0 : Int32)), .val (.ref b59), .val (.int (1 : Int32)), .val (.int (1 : Int32)), .val (.int (1 : Int32)), .unset, .unset] [(.int (1 : Int32))])) t
        refine XS.goto X79.here hx rfl (pc0 := 120) (pc' := 124) rfl (hb hby at_120) (by decide) (by decide) ?_
        show Steps p.tables e below (T79.setTop (mkF m 124 #[.val (.int p1), .val (.int p2), .val (.long q1), .second, .val (.long q2), .second, .val (.int (0 : Int32)), .val (.int (0 : Int32)), .val (.ref b59), .val (.int (1 : Int32)), .val (.int (1 : Int32)), .val (.int (1 : Int32)), .unset, .unset] [(.int (1 : Int32))])) t
        refine XS.istore X79.here hx rfl (hb hby at_124) rfl (l' := #[.val (.int p1), .val (.int p2), .val (.long q1), .second, .val (.long q2), .second, .val (.int (0 : Int32)), .val (.int (0 : Int32)), .val (.ref b59), .val (.int (1 : Int32)), .val (.int (1 : Int32)), .val (.int (1 : Int32)), .val (.int (1 : Int32)), .unset]) rfl ?_
        show Steps p.tables e below (T79.setTop (mkF m 126 #[.val (.int p1), .val (.int p2), .val (.long q1), .second, .val (.long q2), .second, .val (.int (0 : Int32)), .val (.int (0 : Int32)), .val (.ref b59), .val (.int (1 : Int32)), .val (.int (1 : Int32)), .val (.int (1 : Int32)), .val (.int (1 : Int32)), .unset] [])) t
        refine XS.aload X79.here hx rfl (hb hby at_126) rfl rfl ?_
        exact k
      refine WP.st bk80 ?_
      clear bk80
      obtain ⟨cq81, kq81, q81a, q81b, q81c⟩ := isOf hZ Kq79 E_b59
      obtain ⟨_, _, ⟨T81, L81, k81, n81⟩, -, X81, ⟨Lc81, hQ81, l81, y81, z81⟩, st81⟩ := X79.virtualBack hx (y := (⟨"com/example/skope/skope/xml/Intake", "declaringBytes", "()J"⟩ : MethodName)) (z := (⟨"com/example/skope/skope/xml/Intake", "declaringBytes", "()J"⟩ : MethodName)) hown (mvT hZ (hw _ (List.mem_of_getElem? (i := 63) rfl))) (mvT hZ (hw _ (List.mem_of_getElem? (i := 64) rfl))) (notFace_of_selects (args := #[]) (mvT hZ (hw _ (List.mem_of_getElem? (i := 66) rfl)))) (mvT hZ (hw _ (List.mem_of_getElem? (i := 66) rfl))) (mvT hZ (hw _ (List.mem_of_getElem? (i := 65) rfl))) (by decide) (backOf (W := 0) (rm9 l Z a0 hw [] b59 (if (0 : Int32) = 0 then (if (0 : Int32) = 0 then (0 : Int64) else 0) else 0) h77 n0 Z0 F_b59_declaringBytes) hZ (hw _ (List.mem_of_getElem? (i := 67) rfl)) (hw _ (List.mem_of_getElem? (i := 2) rfl)) (by decide) (by decide)) q81a q81c (g := (mkF m 128 #[.val (.int p1), .val (.int p2), .val (.long q1), .second, .val (.long q2), .second, .val (.int (0 : Int32)), .val (.int (0 : Int32)), .val (.ref b59), .val (.int (1 : Int32)), .val (.int (1 : Int32)), .val (.int (1 : Int32)), .val (.int (1 : Int32)), .unset] [(.ref b59)])) rfl (by rw [hml]; rfl) (Steps.refl _) (argsL := []) (rest := []) (lenOf pd_6 rfl) rfl (by show 2 * 0 + _ ≤ _; exact Nat.le_of_eq rfl) (hb hby at_128) (fun _ _ => ⟨rfl, Kq79, (by decide : 2 + 0 ≤ _), (by decide : 15 + 0 ≤ _)⟩)
      dsimp only [Pt.U, Pt.locs, Pt.cells, Pt.slots] at X81 l81 y81 z81 st81 hQ81
      subst l81 y81 z81
      obtain ⟨rfl, Nq81, Kq81⟩ := hQ81
      replace NF := Fr.app NF Nq81
      clear Nq81
      refine WP.tr st81 ?_
      clear st81
      replace Kq81 := Kq81.trans (rfl : h77 = h77)
      show WP p.tables e below _ T81 (mkF m 131 #[.val (.int p1), .val (.int p2), .val (.long q1), .second, .val (.long q2), .second, .val (.int (0 : Int32)), .val (.int (0 : Int32)), .val (.ref b59), .val (.int (1 : Int32)), .val (.int (1 : Int32)), .val (.int (1 : Int32)), .val (.int (1 : Int32)), .unset] [(.long (if (0 : Int32) = 0 then (if (0 : Int32) = 0 then (0 : Int64) else 0) else 0))])
      have bk82 : ∀ t, Steps p.tables e below (T81.setTop (mkF m 138 #[.val (.int p1), .val (.int p2), .val (.long q1), .second, .val (.long q2), .second, .val (.int (0 : Int32)), .val (.int (0 : Int32)), .val (.ref b59), .val (.int (1 : Int32)), .val (.int (1 : Int32)), .val (.int (1 : Int32)), .val (.int (1 : Int32)), .unset] [(.ref b59)])) t → Steps p.tables e below (T81.setTop (mkF m 131 #[.val (.int p1), .val (.int p2), .val (.long q1), .second, .val (.long q2), .second, .val (.int (0 : Int32)), .val (.int (0 : Int32)), .val (.ref b59), .val (.int (1 : Int32)), .val (.int (1 : Int32)), .val (.int (1 : Int32)), .val (.int (1 : Int32)), .unset] [(.long (if (0 : Int32) = 0 then (if (0 : Int32) = 0 then (0 : Int64) else 0) else 0))])) t := fun t k => by
        refine XS.lconst X81.here hx rfl (hb hby at_131) ?_
        show Steps p.tables e below (T81.setTop (mkF m 132 #[.val (.int p1), .val (.int p2), .val (.long q1), .second, .val (.long q2), .second, .val (.int (0 : Int32)), .val (.int (0 : Int32)), .val (.ref b59), .val (.int (1 : Int32)), .val (.int (1 : Int32)), .val (.int (1 : Int32)), .val (.int (1 : Int32)), .unset] [(.long (0 : Int64)), (.long (if (0 : Int32) = 0 then (if (0 : Int32) = 0 then (0 : Int64) else 0) else 0))])) t
        refine XS.lcmp X81.here hx rfl (hb hby at_132) rfl ?_
        show Steps p.tables e below (T81.setTop (mkF m 133 #[.val (.int p1), .val (.int p2), .val (.long q1), .second, .val (.long q2), .second, .val (.int (0 : Int32)), .val (.int (0 : Int32)), .val (.ref b59), .val (.int (1 : Int32)), .val (.int (1 : Int32)), .val (.int (1 : Int32)), .val (.int (1 : Int32)), .unset] [(.int (lcmpW (if (0 : Int32) = 0 then (if (0 : Int32) = 0 then (0 : Int64) else 0) else 0) (0 : Int64)))])) t
        refine XS.ifNo X81.here hx rfl (hb hby at_133) rfl ((if0 _ _).trans (teq (by decide)).2) ?_
        show Steps p.tables e below (T81.setTop (mkF m 136 #[.val (.int p1), .val (.int p2), .val (.long q1), .second, .val (.long q2), .second, .val (.int (0 : Int32)), .val (.int (0 : Int32)), .val (.ref b59), .val (.int (1 : Int32)), .val (.int (1 : Int32)), .val (.int (1 : Int32)), .val (.int (1 : Int32)), .unset] [])) t
        refine XS.aload X81.here hx rfl (hb hby at_136) rfl rfl ?_
        exact k
      refine WP.st bk82 ?_
      clear bk82
      obtain ⟨cq83, kq83, q83a, q83b, q83c⟩ := isOf hZ Kq81 E_b59
      obtain ⟨_, _, ⟨T83, L83, k83, n83⟩, -, X83, ⟨Lc83, hQ83, l83, y83, z83⟩, st83⟩ := X81.virtualBack hx (y := (⟨"com/example/skope/skope/xml/Intake", "nesting", "()I"⟩ : MethodName)) (z := (⟨"com/example/skope/skope/xml/Intake", "nesting", "()I"⟩ : MethodName)) hown (mvT hZ (hw _ (List.mem_of_getElem? (i := 70) rfl))) (mvT hZ (hw _ (List.mem_of_getElem? (i := 71) rfl))) (notFace_of_selects (args := #[]) (mvT hZ (hw _ (List.mem_of_getElem? (i := 73) rfl)))) (mvT hZ (hw _ (List.mem_of_getElem? (i := 73) rfl))) (mvT hZ (hw _ (List.mem_of_getElem? (i := 72) rfl))) (by decide) (backOf (W := 0) (rm10 l Z a0 hw [] b59 (own_max (0 : Int32) p2) h77 n0 Z0 F_b59_nesting) hZ (hw _ (List.mem_of_getElem? (i := 74) rfl)) (hw _ (List.mem_of_getElem? (i := 2) rfl)) (by decide) (by decide)) q83a q83c (g := (mkF m 138 #[.val (.int p1), .val (.int p2), .val (.long q1), .second, .val (.long q2), .second, .val (.int (0 : Int32)), .val (.int (0 : Int32)), .val (.ref b59), .val (.int (1 : Int32)), .val (.int (1 : Int32)), .val (.int (1 : Int32)), .val (.int (1 : Int32)), .unset] [(.ref b59)])) rfl (by rw [hml]; rfl) (Steps.refl _) (argsL := []) (rest := []) (lenOf pd_7 rfl) rfl (by show 2 * 0 + _ ≤ _; exact Nat.le_of_eq rfl) (hb hby at_138) (fun _ _ => ⟨rfl, Kq81, (by decide : 2 + 0 ≤ _), (by decide : 15 + 0 ≤ _)⟩)
      dsimp only [Pt.U, Pt.locs, Pt.cells, Pt.slots] at X83 l83 y83 z83 st83 hQ83
      subst l83 y83 z83
      obtain ⟨rfl, Nq83, Kq83⟩ := hQ83
      replace NF := Fr.app NF Nq83
      clear Nq83
      refine WP.tr st83 ?_
      clear st83
      replace Kq83 := Kq83.trans (rfl : h77 = h77)
      show WP p.tables e below _ T83 (mkF m 141 #[.val (.int p1), .val (.int p2), .val (.long q1), .second, .val (.long q2), .second, .val (.int (0 : Int32)), .val (.int (0 : Int32)), .val (.ref b59), .val (.int (1 : Int32)), .val (.int (1 : Int32)), .val (.int (1 : Int32)), .val (.int (1 : Int32)), .unset] [(.int (own_max (0 : Int32) p2))])
      have bk84 : ∀ t, Steps p.tables e below (T83.setTop (mkF m 143 #[.val (.int p1), .val (.int p2), .val (.long q1), .second, .val (.long q2), .second, .val (.int (0 : Int32)), .val (.int (0 : Int32)), .val (.ref b59), .val (.int (1 : Int32)), .val (.int (1 : Int32)), .val (.int (1 : Int32)), .val (.int (1 : Int32)), .unset] [(.int p2), (.int (0 : Int32)), (.int (own_max (0 : Int32) p2))])) t → Steps p.tables e below (T83.setTop (mkF m 141 #[.val (.int p1), .val (.int p2), .val (.long q1), .second, .val (.long q2), .second, .val (.int (0 : Int32)), .val (.int (0 : Int32)), .val (.ref b59), .val (.int (1 : Int32)), .val (.int (1 : Int32)), .val (.int (1 : Int32)), .val (.int (1 : Int32)), .unset] [(.int (own_max (0 : Int32) p2))])) t := fun t k => by
        refine XS.iconst X83.here hx rfl (hb hby at_141) ?_
        show Steps p.tables e below (T83.setTop (mkF m 142 #[.val (.int p1), .val (.int p2), .val (.long q1), .second, .val (.long q2), .second, .val (.int (0 : Int32)), .val (.int (0 : Int32)), .val (.ref b59), .val (.int (1 : Int32)), .val (.int (1 : Int32)), .val (.int (1 : Int32)), .val (.int (1 : Int32)), .unset] [(.int (0 : Int32)), (.int (own_max (0 : Int32) p2))])) t
        refine XS.iloadN X83.here hx rfl (hb hby at_142) rfl ?_
        exact k
      refine WP.st bk84 ?_
      clear bk84
      obtain ⟨_, _, ⟨T85, L85, k85, n85⟩, -, X85, ⟨Lc85, hQ85, l85, y85, z85⟩, st85⟩ := Jvm.LawKit.callS X83 hx (y := (⟨"java/lang/Math", "max", "(II)I"⟩ : MethodName)) hown (mvT hZ (hw _ (List.mem_of_getElem? (i := 75) rfl))) (mvT hZ (hw _ (List.mem_of_getElem? (i := 27) rfl))) (mvT hZ (hw _ (List.mem_of_getElem? (i := 28) rfl))) (mvT hZ (hw _ (List.mem_of_getElem? (i := 29) rfl))) (by decide) (backOf (W := 1) (rm5 l Z a0 hw [] (0 : Int32) p2 h77 n0 Z0 ) hZ (hw _ (List.mem_of_getElem? (i := 29) rfl)) (hw _ (List.mem_of_getElem? (i := 28) rfl)) (by decide) (by decide)) (g := (mkF m 143 #[.val (.int p1), .val (.int p2), .val (.long q1), .second, .val (.long q2), .second, .val (.int (0 : Int32)), .val (.int (0 : Int32)), .val (.ref b59), .val (.int (1 : Int32)), .val (.int (1 : Int32)), .val (.int (1 : Int32)), .val (.int (1 : Int32)), .unset] [(.int p2), (.int (0 : Int32)), (.int (own_max (0 : Int32) p2))])) rfl (by rw [hml]; rfl) (argsL := [(.int (0 : Int32)), (.int p2)]) (rest := [(.int (own_max (0 : Int32) p2))]) (lenOf pd_0 rfl) rfl (by show 2 * 0 + _ ≤ _; exact Nat.le_of_eq rfl) (hb hby at_143) (fun _ _ => ⟨rfl, Kq83, (by decide : 2 + 0 ≤ _), (by decide : 15 + 0 ≤ _)⟩)
      dsimp only [Pt.U, Pt.locs, Pt.cells, Pt.slots] at X85 l85 y85 z85 st85 hQ85
      subst l85 y85 z85
      obtain ⟨rfl, Nq85, Kq85⟩ := hQ85
      replace NF := Fr.app NF Nq85
      clear Nq85
      refine WP.st st85 ?_
      clear st85
      replace Kq85 := Kq85.trans (rfl : h77 = h77)
      show WP p.tables e below _ T85 (mkF m 146 #[.val (.int p1), .val (.int p2), .val (.long q1), .second, .val (.long q2), .second, .val (.int (0 : Int32)), .val (.int (0 : Int32)), .val (.ref b59), .val (.int (1 : Int32)), .val (.int (1 : Int32)), .val (.int (1 : Int32)), .val (.int (1 : Int32)), .unset] [(.int (own_max (0 : Int32) p2)), (.int (own_max (0 : Int32) p2))])
      have bk86 : ∀ t, Steps p.tables e below (T85.setTop (mkF m 151 #[.val (.int p1), .val (.int p2), .val (.long q1), .second, .val (.long q2), .second, .val (.int (0 : Int32)), .val (.int (0 : Int32)), .val (.ref b59), .val (.int (1 : Int32)), .val (.int (1 : Int32)), .val (.int (1 : Int32)), .val (.int (1 : Int32)), .unset] [(.ref b59)])) t → Steps p.tables e below (T85.setTop (mkF m 146 #[.val (.int p1), .val (.int p2), .val (.long q1), .second, .val (.long q2), .second, .val (.int (0 : Int32)), .val (.int (0 : Int32)), .val (.ref b59), .val (.int (1 : Int32)), .val (.int (1 : Int32)), .val (.int (1 : Int32)), .val (.int (1 : Int32)), .unset] [(.int (own_max (0 : Int32) p2)), (.int (own_max (0 : Int32) p2))])) t := fun t k => by
        refine XS.icmpNo X85.here hx rfl (hb hby at_146) rfl (teq (rfl : (own_max (0 : Int32) p2) = (own_max (0 : Int32) p2))).2 ?_
        show Steps p.tables e below (T85.setTop (mkF m 149 #[.val (.int p1), .val (.int p2), .val (.long q1), .second, .val (.long q2), .second, .val (.int (0 : Int32)), .val (.int (0 : Int32)), .val (.ref b59), .val (.int (1 : Int32)), .val (.int (1 : Int32)), .val (.int (1 : Int32)), .val (.int (1 : Int32)), .unset] [])) t
        refine XS.aload X85.here hx rfl (hb hby at_149) rfl rfl ?_
        exact k
      refine WP.st bk86 ?_
      clear bk86
      obtain ⟨cq87, kq87, q87a, q87b, q87c⟩ := isOf hZ Kq85 E_b59
      obtain ⟨_, _, ⟨T87, L87, k87, n87⟩, -, X87, ⟨Lc87, hQ87, l87, y87, z87⟩, st87⟩ := X85.virtualBack hx (y := (⟨"com/example/skope/skope/xml/Intake", "passedOnDeclarations", "()J"⟩ : MethodName)) (z := (⟨"com/example/skope/skope/xml/Intake", "passedOnDeclarations", "()J"⟩ : MethodName)) hown (mvT hZ (hw _ (List.mem_of_getElem? (i := 76) rfl))) (mvT hZ (hw _ (List.mem_of_getElem? (i := 77) rfl))) (notFace_of_selects (args := #[]) (mvT hZ (hw _ (List.mem_of_getElem? (i := 79) rfl)))) (mvT hZ (hw _ (List.mem_of_getElem? (i := 79) rfl))) (mvT hZ (hw _ (List.mem_of_getElem? (i := 78) rfl))) (by decide) (backOf (W := 0) (rm11 l Z a0 hw [] b59 q1 h77 n0 Z0 F_b59_passedOnDeclarations) hZ (hw _ (List.mem_of_getElem? (i := 80) rfl)) (hw _ (List.mem_of_getElem? (i := 2) rfl)) (by decide) (by decide)) q87a q87c (g := (mkF m 151 #[.val (.int p1), .val (.int p2), .val (.long q1), .second, .val (.long q2), .second, .val (.int (0 : Int32)), .val (.int (0 : Int32)), .val (.ref b59), .val (.int (1 : Int32)), .val (.int (1 : Int32)), .val (.int (1 : Int32)), .val (.int (1 : Int32)), .unset] [(.ref b59)])) rfl (by rw [hml]; rfl) (Steps.refl _) (argsL := []) (rest := []) (lenOf pd_6 rfl) rfl (by show 2 * 0 + _ ≤ _; exact Nat.le_of_eq rfl) (hb hby at_151) (fun _ _ => ⟨rfl, Kq85, (by decide : 2 + 0 ≤ _), (by decide : 15 + 0 ≤ _)⟩)
      dsimp only [Pt.U, Pt.locs, Pt.cells, Pt.slots] at X87 l87 y87 z87 st87 hQ87
      subst l87 y87 z87
      obtain ⟨rfl, Nq87, Kq87⟩ := hQ87
      replace NF := Fr.app NF Nq87
      clear Nq87
      refine WP.tr st87 ?_
      clear st87
      replace Kq87 := Kq87.trans (rfl : h77 = h77)
      show WP p.tables e below _ T87 (mkF m 154 #[.val (.int p1), .val (.int p2), .val (.long q1), .second, .val (.long q2), .second, .val (.int (0 : Int32)), .val (.int (0 : Int32)), .val (.ref b59), .val (.int (1 : Int32)), .val (.int (1 : Int32)), .val (.int (1 : Int32)), .val (.int (1 : Int32)), .unset] [(.long q1)])
      have bk88 : ∀ t, Steps p.tables e below (T87.setTop (mkF m 161 #[.val (.int p1), .val (.int p2), .val (.long q1), .second, .val (.long q2), .second, .val (.int (0 : Int32)), .val (.int (0 : Int32)), .val (.ref b59), .val (.int (1 : Int32)), .val (.int (1 : Int32)), .val (.int (1 : Int32)), .val (.int (1 : Int32)), .unset] [(.ref b59)])) t → Steps p.tables e below (T87.setTop (mkF m 154 #[.val (.int p1), .val (.int p2), .val (.long q1), .second, .val (.long q2), .second, .val (.int (0 : Int32)), .val (.int (0 : Int32)), .val (.ref b59), .val (.int (1 : Int32)), .val (.int (1 : Int32)), .val (.int (1 : Int32)), .val (.int (1 : Int32)), .unset] [(.long q1)])) t := fun t k => by
        refine XS.lloadN X87.here hx rfl (hb hby at_154) rfl ?_
        show Steps p.tables e below (T87.setTop (mkF m 155 #[.val (.int p1), .val (.int p2), .val (.long q1), .second, .val (.long q2), .second, .val (.int (0 : Int32)), .val (.int (0 : Int32)), .val (.ref b59), .val (.int (1 : Int32)), .val (.int (1 : Int32)), .val (.int (1 : Int32)), .val (.int (1 : Int32)), .unset] [(.long q1), (.long q1)])) t
        refine XS.lcmp X87.here hx rfl (hb hby at_155) rfl ?_
        show Steps p.tables e below (T87.setTop (mkF m 156 #[.val (.int p1), .val (.int p2), .val (.long q1), .second, .val (.long q2), .second, .val (.int (0 : Int32)), .val (.int (0 : Int32)), .val (.ref b59), .val (.int (1 : Int32)), .val (.int (1 : Int32)), .val (.int (1 : Int32)), .val (.int (1 : Int32)), .unset] [(.int (lcmpW q1 q1))])) t
        refine XS.ifNo X87.here hx rfl (hb hby at_156) rfl ((if0 _ _).trans (teq ((lw_eq _ _).2 rfl)).2) ?_
        show Steps p.tables e below (T87.setTop (mkF m 159 #[.val (.int p1), .val (.int p2), .val (.long q1), .second, .val (.long q2), .second, .val (.int (0 : Int32)), .val (.int (0 : Int32)), .val (.ref b59), .val (.int (1 : Int32)), .val (.int (1 : Int32)), .val (.int (1 : Int32)), .val (.int (1 : Int32)), .unset] [])) t
        refine XS.aload X87.here hx rfl (hb hby at_159) rfl rfl ?_
        exact k
      refine WP.st bk88 ?_
      clear bk88
      obtain ⟨cq89, kq89, q89a, q89b, q89c⟩ := isOf hZ Kq87 E_b59
      obtain ⟨_, _, ⟨T89, L89, k89, n89⟩, -, X89, ⟨Lc89, hQ89, l89, y89, z89⟩, st89⟩ := X87.virtualBack hx (y := (⟨"com/example/skope/skope/xml/Intake", "passedOnChars", "()J"⟩ : MethodName)) (z := (⟨"com/example/skope/skope/xml/Intake", "passedOnChars", "()J"⟩ : MethodName)) hown (mvT hZ (hw _ (List.mem_of_getElem? (i := 81) rfl))) (mvT hZ (hw _ (List.mem_of_getElem? (i := 82) rfl))) (notFace_of_selects (args := #[]) (mvT hZ (hw _ (List.mem_of_getElem? (i := 84) rfl)))) (mvT hZ (hw _ (List.mem_of_getElem? (i := 84) rfl))) (mvT hZ (hw _ (List.mem_of_getElem? (i := 83) rfl))) (by decide) (backOf (W := 0) (rm12 l Z a0 hw [] b59 q2 h77 n0 Z0 F_b59_passedOnChars) hZ (hw _ (List.mem_of_getElem? (i := 85) rfl)) (hw _ (List.mem_of_getElem? (i := 2) rfl)) (by decide) (by decide)) q89a q89c (g := (mkF m 161 #[.val (.int p1), .val (.int p2), .val (.long q1), .second, .val (.long q2), .second, .val (.int (0 : Int32)), .val (.int (0 : Int32)), .val (.ref b59), .val (.int (1 : Int32)), .val (.int (1 : Int32)), .val (.int (1 : Int32)), .val (.int (1 : Int32)), .unset] [(.ref b59)])) rfl (by rw [hml]; rfl) (Steps.refl _) (argsL := []) (rest := []) (lenOf pd_6 rfl) rfl (by show 2 * 0 + _ ≤ _; exact Nat.le_of_eq rfl) (hb hby at_161) (fun _ _ => ⟨rfl, Kq87, (by decide : 2 + 0 ≤ _), (by decide : 15 + 0 ≤ _)⟩)
      dsimp only [Pt.U, Pt.locs, Pt.cells, Pt.slots] at X89 l89 y89 z89 st89 hQ89
      subst l89 y89 z89
      obtain ⟨rfl, Nq89, Kq89⟩ := hQ89
      replace NF := Fr.app NF Nq89
      clear Nq89
      refine WP.tr st89 ?_
      clear st89
      replace Kq89 := Kq89.trans (rfl : h77 = h77)
      show WP p.tables e below _ T89 (mkF m 164 #[.val (.int p1), .val (.int p2), .val (.long q1), .second, .val (.long q2), .second, .val (.int (0 : Int32)), .val (.int (0 : Int32)), .val (.ref b59), .val (.int (1 : Int32)), .val (.int (1 : Int32)), .val (.int (1 : Int32)), .val (.int (1 : Int32)), .unset] [(.long q2)])
      have bk90 : ∀ t, Steps p.tables e below (T89.setTop (mkF m 207 #[.val (.int p1), .val (.int p2), .val (.long q1), .second, .val (.long q2), .second, .val (.int (0 : Int32)), .val (.int (0 : Int32)), .val (.ref b59), .val (.int (1 : Int32)), .val (.int (1 : Int32)), .val (.int (1 : Int32)), .val (.int (1 : Int32)), .val (.int (1 : Int32))] [(.int (1 : Int32))])) t → Steps p.tables e below (T89.setTop (mkF m 164 #[.val (.int p1), .val (.int p2), .val (.long q1), .second, .val (.long q2), .second, .val (.int (0 : Int32)), .val (.int (0 : Int32)), .val (.ref b59), .val (.int (1 : Int32)), .val (.int (1 : Int32)), .val (.int (1 : Int32)), .val (.int (1 : Int32)), .unset] [(.long q2)])) t := fun t k => by
        refine XS.lload X89.here hx rfl (hb hby at_164) rfl ?_
        show Steps p.tables e below (T89.setTop (mkF m 166 #[.val (.int p1), .val (.int p2), .val (.long q1), .second, .val (.long q2), .second, .val (.int (0 : Int32)), .val (.int (0 : Int32)), .val (.ref b59), .val (.int (1 : Int32)), .val (.int (1 : Int32)), .val (.int (1 : Int32)), .val (.int (1 : Int32)), .unset] [(.long q2), (.long q2)])) t
        refine XS.lcmp X89.here hx rfl (hb hby at_166) rfl ?_
        show Steps p.tables e below (T89.setTop (mkF m 167 #[.val (.int p1), .val (.int p2), .val (.long q1), .second, .val (.long q2), .second, .val (.int (0 : Int32)), .val (.int (0 : Int32)), .val (.ref b59), .val (.int (1 : Int32)), .val (.int (1 : Int32)), .val (.int (1 : Int32)), .val (.int (1 : Int32)), .unset] [(.int (lcmpW q2 q2))])) t
        refine XS.ifNo X89.here hx rfl (hb hby at_167) rfl ((if0 _ _).trans (teq ((lw_eq _ _).2 rfl)).2) ?_
        show Steps p.tables e below (T89.setTop (mkF m 170 #[.val (.int p1), .val (.int p2), .val (.long q1), .second, .val (.long q2), .second, .val (.int (0 : Int32)), .val (.int (0 : Int32)), .val (.ref b59), .val (.int (1 : Int32)), .val (.int (1 : Int32)), .val (.int (1 : Int32)), .val (.int (1 : Int32)), .unset] [])) t
        refine XS.iconst X89.here hx rfl (hb hby at_170) ?_
        show Steps p.tables e below (T89.setTop (mkF m 171 #[.val (.int p1), .val (.int p2), .val (.long q1), .second, .val (.long q2), .second, .val (.int (0 : Int32)), .val (.int (0 : Int32)), .val (.ref b59), .val (.int (1 : Int32)), .val (.int (1 : Int32)), .val (.int (1 : Int32)), .val (.int (1 : Int32)), .unset] [(.int (1 : Int32))])) t
        refine XS.goto X89.here hx rfl (pc0 := 171) (pc' := 175) rfl (hb hby at_171) (by decide) (by decide) ?_
        show Steps p.tables e below (T89.setTop (mkF m 175 #[.val (.int p1), .val (.int p2), .val (.long q1), .second, .val (.long q2), .second, .val (.int (0 : Int32)), .val (.int (0 : Int32)), .val (.ref b59), .val (.int (1 : Int32)), .val (.int (1 : Int32)), .val (.int (1 : Int32)), .val (.int (1 : Int32)), .unset] [(.int (1 : Int32))])) t
        refine XS.istore X89.here hx rfl (hb hby at_175) rfl (l' := #[.val (.int p1), .val (.int p2), .val (.long q1), .second, .val (.long q2), .second, .val (.int (0 : Int32)), .val (.int (0 : Int32)), .val (.ref b59), .val (.int (1 : Int32)), .val (.int (1 : Int32)), .val (.int (1 : Int32)), .val (.int (1 : Int32)), .val (.int (1 : Int32))]) rfl ?_
        show Steps p.tables e below (T89.setTop (mkF m 177 #[.val (.int p1), .val (.int p2), .val (.long q1), .second, .val (.long q2), .second, .val (.int (0 : Int32)), .val (.int (0 : Int32)), .val (.ref b59), .val (.int (1 : Int32)), .val (.int (1 : Int32)), .val (.int (1 : Int32)), .val (.int (1 : Int32)), .val (.int (1 : Int32))] [])) t
        refine XS.iload X89.here hx rfl (hb hby at_177) rfl ?_
        show Steps p.tables e below (T89.setTop (mkF m 179 #[.val (.int p1), .val (.int p2), .val (.long q1), .second, .val (.long q2), .second, .val (.int (0 : Int32)), .val (.int (0 : Int32)), .val (.ref b59), .val (.int (1 : Int32)), .val (.int (1 : Int32)), .val (.int (1 : Int32)), .val (.int (1 : Int32)), .val (.int (1 : Int32))] [(.int (1 : Int32))])) t
        refine XS.ifNo X89.here hx rfl (hb hby at_179) rfl ((if0 _ _).trans (feq (by decide : ¬ ((1 : Int32) = (0 : Int32)))).1) ?_
        show Steps p.tables e below (T89.setTop (mkF m 182 #[.val (.int p1), .val (.int p2), .val (.long q1), .second, .val (.long q2), .second, .val (.int (0 : Int32)), .val (.int (0 : Int32)), .val (.ref b59), .val (.int (1 : Int32)), .val (.int (1 : Int32)), .val (.int (1 : Int32)), .val (.int (1 : Int32)), .val (.int (1 : Int32))] [])) t
        refine XS.iload X89.here hx rfl (hb hby at_182) rfl ?_
        show Steps p.tables e below (T89.setTop (mkF m 184 #[.val (.int p1), .val (.int p2), .val (.long q1), .second, .val (.long q2), .second, .val (.int (0 : Int32)), .val (.int (0 : Int32)), .val (.ref b59), .val (.int (1 : Int32)), .val (.int (1 : Int32)), .val (.int (1 : Int32)), .val (.int (1 : Int32)), .val (.int (1 : Int32))] [(.int (1 : Int32))])) t
        refine XS.ifNo X89.here hx rfl (hb hby at_184) rfl ((if0 _ _).trans (feq (by decide : ¬ ((1 : Int32) = (0 : Int32)))).1) ?_
        show Steps p.tables e below (T89.setTop (mkF m 187 #[.val (.int p1), .val (.int p2), .val (.long q1), .second, .val (.long q2), .second, .val (.int (0 : Int32)), .val (.int (0 : Int32)), .val (.ref b59), .val (.int (1 : Int32)), .val (.int (1 : Int32)), .val (.int (1 : Int32)), .val (.int (1 : Int32)), .val (.int (1 : Int32))] [])) t
        refine XS.iload X89.here hx rfl (hb hby at_187) rfl ?_
        show Steps p.tables e below (T89.setTop (mkF m 189 #[.val (.int p1), .val (.int p2), .val (.long q1), .second, .val (.long q2), .second, .val (.int (0 : Int32)), .val (.int (0 : Int32)), .val (.ref b59), .val (.int (1 : Int32)), .val (.int (1 : Int32)), .val (.int (1 : Int32)), .val (.int (1 : Int32)), .val (.int (1 : Int32))] [(.int (1 : Int32))])) t
        refine XS.ifNo X89.here hx rfl (hb hby at_189) rfl ((if0 _ _).trans (feq (by decide : ¬ ((1 : Int32) = (0 : Int32)))).1) ?_
        show Steps p.tables e below (T89.setTop (mkF m 192 #[.val (.int p1), .val (.int p2), .val (.long q1), .second, .val (.long q2), .second, .val (.int (0 : Int32)), .val (.int (0 : Int32)), .val (.ref b59), .val (.int (1 : Int32)), .val (.int (1 : Int32)), .val (.int (1 : Int32)), .val (.int (1 : Int32)), .val (.int (1 : Int32))] [])) t
        refine XS.iload X89.here hx rfl (hb hby at_192) rfl ?_
        show Steps p.tables e below (T89.setTop (mkF m 194 #[.val (.int p1), .val (.int p2), .val (.long q1), .second, .val (.long q2), .second, .val (.int (0 : Int32)), .val (.int (0 : Int32)), .val (.ref b59), .val (.int (1 : Int32)), .val (.int (1 : Int32)), .val (.int (1 : Int32)), .val (.int (1 : Int32)), .val (.int (1 : Int32))] [(.int (1 : Int32))])) t
        refine XS.ifNo X89.here hx rfl (hb hby at_194) rfl ((if0 _ _).trans (feq (by decide : ¬ ((1 : Int32) = (0 : Int32)))).1) ?_
        show Steps p.tables e below (T89.setTop (mkF m 197 #[.val (.int p1), .val (.int p2), .val (.long q1), .second, .val (.long q2), .second, .val (.int (0 : Int32)), .val (.int (0 : Int32)), .val (.ref b59), .val (.int (1 : Int32)), .val (.int (1 : Int32)), .val (.int (1 : Int32)), .val (.int (1 : Int32)), .val (.int (1 : Int32))] [])) t
        refine XS.iload X89.here hx rfl (hb hby at_197) rfl ?_
        show Steps p.tables e below (T89.setTop (mkF m 199 #[.val (.int p1), .val (.int p2), .val (.long q1), .second, .val (.long q2), .second, .val (.int (0 : Int32)), .val (.int (0 : Int32)), .val (.ref b59), .val (.int (1 : Int32)), .val (.int (1 : Int32)), .val (.int (1 : Int32)), .val (.int (1 : Int32)), .val (.int (1 : Int32))] [(.int (1 : Int32))])) t
        refine XS.ifNo X89.here hx rfl (hb hby at_199) rfl ((if0 _ _).trans (feq (by decide : ¬ ((1 : Int32) = (0 : Int32)))).1) ?_
        show Steps p.tables e below (T89.setTop (mkF m 202 #[.val (.int p1), .val (.int p2), .val (.long q1), .second, .val (.long q2), .second, .val (.int (0 : Int32)), .val (.int (0 : Int32)), .val (.ref b59), .val (.int (1 : Int32)), .val (.int (1 : Int32)), .val (.int (1 : Int32)), .val (.int (1 : Int32)), .val (.int (1 : Int32))] [])) t
        refine XS.iconst X89.here hx rfl (hb hby at_202) ?_
        show Steps p.tables e below (T89.setTop (mkF m 203 #[.val (.int p1), .val (.int p2), .val (.long q1), .second, .val (.long q2), .second, .val (.int (0 : Int32)), .val (.int (0 : Int32)), .val (.ref b59), .val (.int (1 : Int32)), .val (.int (1 : Int32)), .val (.int (1 : Int32)), .val (.int (1 : Int32)), .val (.int (1 : Int32))] [(.int (1 : Int32))])) t
        refine XS.goto X89.here hx rfl (pc0 := 203) (pc' := 207) rfl (hb hby at_203) (by decide) (by decide) ?_
        exact k
      refine WP.st bk90 ?_
      clear bk90
      subst hG
      obtain ⟨fs, hr, hrun, hended, hW, hsame⟩ := X89.leave (v := some (.int (1 : Int32))) (fun h => by rw [Bd.returns] at h; cases h)
      refine WP.fin ⟨_, _, ?_, hrun, hended, _, _, rfl, ?_, ⟨_, rfl⟩, hW, hsame.mono (by decide) (by decide)⟩
      · exact retN X89 hx (t := .boolean) Bd.returns (by simp) (hb hby at_207) hr
      · show Q0 Z p1 p2 q1 q2 h0 n0 _ T89.heap _
        rw [Kq89]
        exact ⟨rfl, NF⟩
    · skip
      have bk91 : ∀ t, Steps p.tables e below (s₁.setTop (mkF m 26 #[.val (.int p1), .val (.int p2), .val (.long q1), .second, .val (.long q2), .second, .val (.int (0 : Int32)), .val (.int (1 : Int32)), .unset, .unset, .unset, .unset, .unset, .unset] [])) t → Steps p.tables e below (s₁.setTop (mkF m 16 #[.val (.int p1), .val (.int p2), .val (.long q1), .second, .val (.long q2), .second, .val (.int (0 : Int32)), .unset, .unset, .unset, .unset, .unset, .unset, .unset] [(.int (p1 &&& (2 : Int32)))])) t := fun t k => by
        refine XS.ifNo X0.here hx rfl (hb hby at_16) rfl ((if0 _ _).trans (feq hc56).1) ?_
        show Steps p.tables e below (s₁.setTop (mkF m 19 #[.val (.int p1), .val (.int p2), .val (.long q1), .second, .val (.long q2), .second, .val (.int (0 : Int32)), .unset, .unset, .unset, .unset, .unset, .unset, .unset] [])) t
        refine XS.iconst X0.here hx rfl (hb hby at_19) ?_
        show Steps p.tables e below (s₁.setTop (mkF m 20 #[.val (.int p1), .val (.int p2), .val (.long q1), .second, .val (.long q2), .second, .val (.int (0 : Int32)), .unset, .unset, .unset, .unset, .unset, .unset, .unset] [(.int (1 : Int32))])) t
        refine XS.goto X0.here hx rfl (pc0 := 20) (pc' := 24) rfl (hb hby at_20) (by decide) (by decide) ?_
        show Steps p.tables e below (s₁.setTop (mkF m 24 #[.val (.int p1), .val (.int p2), .val (.long q1), .second, .val (.long q2), .second, .val (.int (0 : Int32)), .unset, .unset, .unset, .unset, .unset, .unset, .unset] [(.int (1 : Int32))])) t
        refine XS.istore X0.here hx rfl (hb hby at_24) rfl (l' := #[.val (.int p1), .val (.int p2), .val (.long q1), .second, .val (.long q2), .second, .val (.int (0 : Int32)), .val (.int (1 : Int32)), .unset, .unset, .unset, .unset, .unset, .unset]) rfl ?_
        exact k
      refine WP.st bk91 ?_
      clear bk91
      obtain ⟨T92, h92, X92, e92, E92, A92, D92, -, st92⟩ := newO X0 hx hZ hown (hw _ (List.mem_of_getElem? (i := 0) rfl)) (hw _ (List.mem_of_getElem? (i := 1) rfl)) (hw _ (List.mem_of_getElem? (i := 2) rfl)) e0 (g := (mkF m 26 #[.val (.int p1), .val (.int p2), .val (.long q1), .second, .val (.long q2), .second, .val (.int (0 : Int32)), .val (.int (1 : Int32)), .unset, .unset, .unset, .unset, .unset, .unset] [])) rfl (hb hby at_26) (by decide) (by decide)
      obtain ⟨b92, g92⟩ : ∃ z, z = h0.size := ⟨_, rfl⟩
      rw [← g92] at A92 D92 st92
      refine WP.st st92 ?_
      clear st92
      have g_b92 : n0 ≤ b92 := Nat.le_trans Z0 (Nat.le_of_eq g92.symm)
      replace Z0 := Nat.le_trans Z0 E92.1
      have E_b92 := A92
      have F_b92_longestValues : Fld Z h92 b92 "com/example/skope/skope/xml/Intake" "longestValues" "[I" .null := D92 (Or.inl (hw _ (List.mem_of_getElem? (i := 11) rfl))) (ty := (.array .int)) (by decide)
      have F_b92_dropsNames : Fld Z h92 b92 "com/example/skope/skope/xml/Intake" "dropsNames" "Z" (.int (0 : Int32)) := D92 (Or.inl (hw _ (List.mem_of_getElem? (i := 13) rfl))) (ty := .boolean) (by decide)
      have F_b92_nesting : Fld Z h92 b92 "com/example/skope/skope/xml/Intake" "nesting" "I" (.int (0 : Int32)) := D92 (Or.inl (hw _ (List.mem_of_getElem? (i := 25) rfl))) (ty := .int) (by decide)
      have F_b92_passedOnDeclarations : Fld Z h92 b92 "com/example/skope/skope/xml/Intake" "passedOnDeclarations" "J" (.long (0 : Int64)) := D92 (Or.inl (hw _ (List.mem_of_getElem? (i := 36) rfl))) (ty := .long) (by decide)
      have F_b92_passedOnChars : Fld Z h92 b92 "com/example/skope/skope/xml/Intake" "passedOnChars" "J" (.long (0 : Int64)) := D92 (Or.inl (hw _ (List.mem_of_getElem? (i := 38) rfl))) (ty := .long) (by decide)
      have F_b92_documentTypeDeclaration : Fld Z h92 b92 "com/example/skope/skope/xml/Intake" "documentTypeDeclaration" "Z" (.int (0 : Int32)) := D92 (Or.inl (hw _ (List.mem_of_getElem? (i := 50) rfl))) (ty := .boolean) (by decide)
      have F_b92_bytes : Fld Z h92 b92 "com/example/skope/skope/xml/Intake" "bytes" "J" (.long (0 : Int64)) := D92 (Or.inl (hw _ (List.mem_of_getElem? (i := 52) rfl))) (ty := .long) (by decide)
      have F_b92_stretch : Fld Z h92 b92 "com/example/skope/skope/xml/Intake" "stretch" "J" (.long (0 : Int64)) := D92 (Or.inl (hw _ (List.mem_of_getElem? (i := 54) rfl))) (ty := .long) (by decide)
      have F_b92_started : Fld Z h92 b92 "com/example/skope/skope/xml/Intake" "started" "Z" (.int (0 : Int32)) := D92 (Or.inl (hw _ (List.mem_of_getElem? (i := 56) rfl))) (ty := .boolean) (by decide)
      have F_b92_internalGeneralEntity : Fld Z h92 b92 "com/example/skope/skope/xml/Intake" "internalGeneralEntity" "Z" (.int (0 : Int32)) := D92 (Or.inl (hw _ (List.mem_of_getElem? (i := 58) rfl))) (ty := .boolean) (by decide)
      have F_b92_internalParameterEntity : Fld Z h92 b92 "com/example/skope/skope/xml/Intake" "internalParameterEntity" "Z" (.int (0 : Int32)) := D92 (Or.inl (hw _ (List.mem_of_getElem? (i := 60) rfl))) (ty := .boolean) (by decide)
      have F_b92_attributeList : Fld Z h92 b92 "com/example/skope/skope/xml/Intake" "attributeList" "Z" (.int (0 : Int32)) := D92 (Or.inl (hw _ (List.mem_of_getElem? (i := 62) rfl))) (ty := .boolean) (by decide)
      have F_b92_declaringBytes : Fld Z h92 b92 "com/example/skope/skope/xml/Intake" "declaringBytes" "J" (.long (0 : Int64)) := D92 (Or.inl (hw _ (List.mem_of_getElem? (i := 69) rfl))) (ty := .long) (by decide)
      clear D92 A92
      show WP p.tables e below _ T92 (mkF m 29 #[.val (.int p1), .val (.int p2), .val (.long q1), .second, .val (.long q2), .second, .val (.int (0 : Int32)), .val (.int (1 : Int32)), .unset, .unset, .unset, .unset, .unset, .unset] [(.ref b92)])
      have bk93 : ∀ t, Steps p.tables e below (T92.setTop (mkF m 30 #[.val (.int p1), .val (.int p2), .val (.long q1), .second, .val (.long q2), .second, .val (.int (0 : Int32)), .val (.int (1 : Int32)), .unset, .unset, .unset, .unset, .unset, .unset] [(.ref b92), (.ref b92)])) t → Steps p.tables e below (T92.setTop (mkF m 29 #[.val (.int p1), .val (.int p2), .val (.long q1), .second, .val (.long q2), .second, .val (.int (0 : Int32)), .val (.int (1 : Int32)), .unset, .unset, .unset, .unset, .unset, .unset] [(.ref b92)])) t := fun t k => by
        refine XS.dup X92.here hx rfl (hb hby at_29) rfl rfl ?_
        exact k
      refine WP.st bk93 ?_
      clear bk93
      obtain ⟨_, _, ⟨T94, L94, k94, n94⟩, -, X94, ⟨Lc94, hQ94, l94, y94, z94⟩, st94⟩ := X92.specialBack hx (y := (⟨"com/example/skope/skope/xml/Intake", "<init>", "()V"⟩ : MethodName)) rfl hown (mvT hZ (hw _ (List.mem_of_getElem? (i := 3) rfl))) (mvT hZ (hw _ (List.mem_of_getElem? (i := 4) rfl))) (mvT hZ (hw _ (List.mem_of_getElem? (i := 5) rfl))) (by decide) (backOf (W := 1) (rm1 l Z a0 hw [] b92 Value.null (0 : Int32) (0 : Int32) (0 : Int64) (0 : Int64) (0 : Int32) (0 : Int64) (0 : Int64) (0 : Int32) (0 : Int32) (0 : Int32) (0 : Int32) (0 : Int64) h92 n0 Z0 E_b92 g_b92 F_b92_longestValues F_b92_dropsNames F_b92_nesting F_b92_passedOnDeclarations F_b92_passedOnChars F_b92_documentTypeDeclaration F_b92_bytes F_b92_stretch F_b92_started F_b92_internalGeneralEntity F_b92_internalParameterEntity F_b92_attributeList F_b92_declaringBytes) hZ (hw _ (List.mem_of_getElem? (i := 5) rfl)) (hw _ (List.mem_of_getElem? (i := 2) rfl)) (by decide) (by decide)) (g := (mkF m 30 #[.val (.int p1), .val (.int p2), .val (.long q1), .second, .val (.long q2), .second, .val (.int (0 : Int32)), .val (.int (1 : Int32)), .unset, .unset, .unset, .unset, .unset, .unset] [(.ref b92), (.ref b92)])) rfl (by rw [hml]; rfl) (Steps.refl _) (a := b92) (argsL := []) (rest := [(.ref b92)]) (lenOf pd_1 rfl) rfl (by show 2 * 0 + _ ≤ _; exact Nat.le_of_eq rfl) (hb hby at_30) (fun _ _ => ⟨rfl, e92, (by decide : 1 + 1 ≤ _), (by decide : 15 + 0 ≤ _)⟩)
      dsimp only [Pt.U, Pt.locs, Pt.cells, Pt.slots] at X94 l94 y94 z94 st94 hQ94
      subst l94 y94 z94
      obtain ⟨rfl, Nq94, Kq94, nF94_b92_dropsNames, nF94_b92_nesting, nF94_b92_passedOnDeclarations, nF94_b92_passedOnChars, nF94_b92_documentTypeDeclaration, nF94_b92_bytes, nF94_b92_stretch, nF94_b92_started, nF94_b92_internalGeneralEntity, nF94_b92_internalParameterEntity, nF94_b92_attributeList, nF94_b92_declaringBytes⟩ := hQ94
      replace NF := Fr.app NF Nq94
      clear Nq94
      refine WP.tr st94 ?_
      clear st94
      obtain ⟨h94, e94⟩ : ∃ h, T94.heap = h := ⟨_, rfl⟩
      rw [e94] at Kq94 nF94_b92_dropsNames nF94_b92_nesting nF94_b92_passedOnDeclarations nF94_b92_passedOnChars nF94_b92_documentTypeDeclaration nF94_b92_bytes nF94_b92_stretch nF94_b92_started nF94_b92_internalGeneralEntity nF94_b92_internalParameterEntity nF94_b92_attributeList nF94_b92_declaringBytes
      replace E_b92 := E_b92.keep Kq94
      clear F_b92_longestValues
      clear F_b92_dropsNames
      clear F_b92_nesting
      clear F_b92_passedOnDeclarations
      clear F_b92_passedOnChars
      clear F_b92_documentTypeDeclaration
      clear F_b92_bytes
      clear F_b92_stretch
      clear F_b92_started
      clear F_b92_internalGeneralEntity
      clear F_b92_internalParameterEntity
      clear F_b92_attributeList
      clear F_b92_declaringBytes
      replace Z0 := Nat.le_trans Z0 Kq94.1
      clear Kq94
      have F_b92_dropsNames := nF94_b92_dropsNames
      clear nF94_b92_dropsNames
      have F_b92_nesting := nF94_b92_nesting
      clear nF94_b92_nesting
      have F_b92_passedOnDeclarations := nF94_b92_passedOnDeclarations
      clear nF94_b92_passedOnDeclarations
      have F_b92_passedOnChars := nF94_b92_passedOnChars
      clear nF94_b92_passedOnChars
      have F_b92_documentTypeDeclaration := nF94_b92_documentTypeDeclaration
      clear nF94_b92_documentTypeDeclaration
      have F_b92_bytes := nF94_b92_bytes
      clear nF94_b92_bytes
      have F_b92_stretch := nF94_b92_stretch
      clear nF94_b92_stretch
      have F_b92_started := nF94_b92_started
      clear nF94_b92_started
      have F_b92_internalGeneralEntity := nF94_b92_internalGeneralEntity
      clear nF94_b92_internalGeneralEntity
      have F_b92_internalParameterEntity := nF94_b92_internalParameterEntity
      clear nF94_b92_internalParameterEntity
      have F_b92_attributeList := nF94_b92_attributeList
      clear nF94_b92_attributeList
      have F_b92_declaringBytes := nF94_b92_declaringBytes
      clear nF94_b92_declaringBytes
      show WP p.tables e below _ T94 (mkF m 33 #[.val (.int p1), .val (.int p2), .val (.long q1), .second, .val (.long q2), .second, .val (.int (0 : Int32)), .val (.int (1 : Int32)), .unset, .unset, .unset, .unset, .unset, .unset] [(.ref b92)])
      have bk95 : ∀ t, Steps p.tables e below (T94.setTop (mkF m 37 #[.val (.int p1), .val (.int p2), .val (.long q1), .second, .val (.long q2), .second, .val (.int (0 : Int32)), .val (.int (1 : Int32)), .val (.ref b92), .unset, .unset, .unset, .unset, .unset] [(.ref b92)])) t → Steps p.tables e below (T94.setTop (mkF m 33 #[.val (.int p1), .val (.int p2), .val (.long q1), .second, .val (.long q2), .second, .val (.int (0 : Int32)), .val (.int (1 : Int32)), .unset, .unset, .unset, .unset, .unset, .unset] [(.ref b92)])) t := fun t k => by
        refine XS.astore X94.here hx rfl (hb hby at_33) rfl rfl (l' := #[.val (.int p1), .val (.int p2), .val (.long q1), .second, .val (.long q2), .second, .val (.int (0 : Int32)), .val (.int (1 : Int32)), .val (.ref b92), .unset, .unset, .unset, .unset, .unset]) rfl ?_
        show Steps p.tables e below (T94.setTop (mkF m 35 #[.val (.int p1), .val (.int p2), .val (.long q1), .second, .val (.long q2), .second, .val (.int (0 : Int32)), .val (.int (1 : Int32)), .val (.ref b92), .unset, .unset, .unset, .unset, .unset] [])) t
        refine XS.aload X94.here hx rfl (hb hby at_35) rfl rfl ?_
        exact k
      refine WP.st bk95 ?_
      clear bk95
      obtain ⟨cq96, kq96, q96a, q96b, q96c⟩ := isOf hZ e94 E_b92
      obtain ⟨_, _, ⟨T96, L96, k96, n96⟩, -, X96, ⟨Lc96, hQ96, l96, y96, z96⟩, st96⟩ := X94.virtualBack hx (y := (⟨"com/example/skope/skope/xml/Intake", "dropsNames", "()Z"⟩ : MethodName)) (z := (⟨"com/example/skope/skope/xml/Intake", "dropsNames", "()Z"⟩ : MethodName)) hown (mvT hZ (hw _ (List.mem_of_getElem? (i := 14) rfl))) (mvT hZ (hw _ (List.mem_of_getElem? (i := 15) rfl))) (notFace_of_selects (args := #[]) (mvT hZ (hw _ (List.mem_of_getElem? (i := 17) rfl)))) (mvT hZ (hw _ (List.mem_of_getElem? (i := 17) rfl))) (mvT hZ (hw _ (List.mem_of_getElem? (i := 16) rfl))) (by decide) (backOf (W := 0) (rm3 l Z a0 hw [] b92 (1 : Int32) h94 n0 Z0 F_b92_dropsNames) hZ (hw _ (List.mem_of_getElem? (i := 18) rfl)) (hw _ (List.mem_of_getElem? (i := 2) rfl)) (by decide) (by decide)) q96a q96c (g := (mkF m 37 #[.val (.int p1), .val (.int p2), .val (.long q1), .second, .val (.long q2), .second, .val (.int (0 : Int32)), .val (.int (1 : Int32)), .val (.ref b92), .unset, .unset, .unset, .unset, .unset] [(.ref b92)])) rfl (by rw [hml]; rfl) (Steps.refl _) (argsL := []) (rest := []) (lenOf pd_2 rfl) rfl (by show 2 * 0 + _ ≤ _; exact Nat.le_of_eq rfl) (hb hby at_37) (fun _ _ => ⟨rfl, e94, (by decide : 2 + 0 ≤ _), (by decide : 15 + 0 ≤ _)⟩)
      dsimp only [Pt.U, Pt.locs, Pt.cells, Pt.slots] at X96 l96 y96 z96 st96 hQ96
      subst l96 y96 z96
      obtain ⟨rfl, Nq96, Kq96⟩ := hQ96
      replace NF := Fr.app NF Nq96
      clear Nq96
      refine WP.tr st96 ?_
      clear st96
      replace Kq96 := Kq96.trans (rfl : h94 = h94)
      show WP p.tables e below _ T96 (mkF m 40 #[.val (.int p1), .val (.int p2), .val (.long q1), .second, .val (.long q2), .second, .val (.int (0 : Int32)), .val (.int (1 : Int32)), .val (.ref b92), .unset, .unset, .unset, .unset, .unset] [(.int (nar .boolean (1 : Int32)))])
      rw [show (nar .boolean (1 : Int32)) = (1 : Int32) from by decide]
      show WP p.tables e below _ T96 (mkF m 40 #[.val (.int p1), .val (.int p2), .val (.long q1), .second, .val (.long q2), .second, .val (.int (0 : Int32)), .val (.int (1 : Int32)), .val (.ref b92), .unset, .unset, .unset, .unset, .unset] [(.int (1 : Int32))])
      have bk97 : ∀ t, Steps p.tables e below (T96.setTop (mkF m 45 #[.val (.int p1), .val (.int p2), .val (.long q1), .second, .val (.long q2), .second, .val (.int (0 : Int32)), .val (.int (1 : Int32)), .val (.ref b92), .val (.int (1 : Int32)), .unset, .unset, .unset, .unset] [(.int p2), (.ref b92)])) t → Steps p.tables e below (T96.setTop (mkF m 40 #[.val (.int p1), .val (.int p2), .val (.long q1), .second, .val (.long q2), .second, .val (.int (0 : Int32)), .val (.int (1 : Int32)), .val (.ref b92), .unset, .unset, .unset, .unset, .unset] [(.int (1 : Int32))])) t := fun t k => by
        refine XS.istore X96.here hx rfl (hb hby at_40) rfl (l' := #[.val (.int p1), .val (.int p2), .val (.long q1), .second, .val (.long q2), .second, .val (.int (0 : Int32)), .val (.int (1 : Int32)), .val (.ref b92), .val (.int (1 : Int32)), .unset, .unset, .unset, .unset]) rfl ?_
        show Steps p.tables e below (T96.setTop (mkF m 42 #[.val (.int p1), .val (.int p2), .val (.long q1), .second, .val (.long q2), .second, .val (.int (0 : Int32)), .val (.int (1 : Int32)), .val (.ref b92), .val (.int (1 : Int32)), .unset, .unset, .unset, .unset] [])) t
        refine XS.aload X96.here hx rfl (hb hby at_42) rfl rfl ?_
        show Steps p.tables e below (T96.setTop (mkF m 44 #[.val (.int p1), .val (.int p2), .val (.long q1), .second, .val (.long q2), .second, .val (.int (0 : Int32)), .val (.int (1 : Int32)), .val (.ref b92), .val (.int (1 : Int32)), .unset, .unset, .unset, .unset] [(.ref b92)])) t
        refine XS.iloadN X96.here hx rfl (hb hby at_44) rfl ?_
        exact k
      refine WP.st bk97 ?_
      clear bk97
      obtain ⟨cq98, kq98, q98a, q98b, q98c⟩ := isOf hZ Kq96 E_b92
      obtain ⟨_, _, ⟨T98, L98, k98, n98⟩, -, X98, ⟨Lc98, hQ98, l98, y98, z98⟩, st98⟩ := X96.virtualBack hx (y := (⟨"com/example/skope/skope/xml/Intake", "addNesting", "(I)V"⟩ : MethodName)) (z := (⟨"com/example/skope/skope/xml/Intake", "addNesting", "(I)V"⟩ : MethodName)) hown (mvT hZ (hw _ (List.mem_of_getElem? (i := 19) rfl))) (mvT hZ (hw _ (List.mem_of_getElem? (i := 20) rfl))) (notFace_of_selects (args := #[]) (mvT hZ (hw _ (List.mem_of_getElem? (i := 22) rfl)))) (mvT hZ (hw _ (List.mem_of_getElem? (i := 22) rfl))) (mvT hZ (hw _ (List.mem_of_getElem? (i := 21) rfl))) (by decide) (backOf (W := 0) (rm4 l Z a0 hw [] b92 p2 (1 : Int32) (0 : Int32) (0 : Int64) (0 : Int64) (0 : Int32) (0 : Int64) (0 : Int64) (0 : Int32) (0 : Int32) (0 : Int32) (0 : Int32) (0 : Int64) h94 n0 Z0 E_b92 g_b92 F_b92_dropsNames F_b92_nesting F_b92_passedOnDeclarations F_b92_passedOnChars F_b92_documentTypeDeclaration F_b92_bytes F_b92_stretch F_b92_started F_b92_internalGeneralEntity F_b92_internalParameterEntity F_b92_attributeList F_b92_declaringBytes) hZ (hw _ (List.mem_of_getElem? (i := 23) rfl)) (hw _ (List.mem_of_getElem? (i := 2) rfl)) (by decide) (by decide)) q98a q98c (g := (mkF m 45 #[.val (.int p1), .val (.int p2), .val (.long q1), .second, .val (.long q2), .second, .val (.int (0 : Int32)), .val (.int (1 : Int32)), .val (.ref b92), .val (.int (1 : Int32)), .unset, .unset, .unset, .unset] [(.int p2), (.ref b92)])) rfl (by rw [hml]; rfl) (Steps.refl _) (argsL := [(.int p2)]) (rest := []) (lenOf pd_3 rfl) rfl (by show 2 * 0 + _ ≤ _; exact Nat.le_of_eq rfl) (hb hby at_45) (fun _ _ => ⟨rfl, Kq96, (by decide : 2 + 0 ≤ _), (by decide : 15 + 0 ≤ _)⟩)
      dsimp only [Pt.U, Pt.locs, Pt.cells, Pt.slots] at X98 l98 y98 z98 st98 hQ98
      subst l98 y98 z98
      obtain ⟨rfl, Nq98, Kq98, nF98_b92_dropsNames, nF98_b92_nesting, nF98_b92_passedOnDeclarations, nF98_b92_passedOnChars, nF98_b92_documentTypeDeclaration, nF98_b92_bytes, nF98_b92_stretch, nF98_b92_started, nF98_b92_internalGeneralEntity, nF98_b92_internalParameterEntity, nF98_b92_attributeList, nF98_b92_declaringBytes⟩ := hQ98
      replace NF := Fr.app NF Nq98
      clear Nq98
      refine WP.tr st98 ?_
      clear st98
      obtain ⟨h98, e98⟩ : ∃ h, T98.heap = h := ⟨_, rfl⟩
      rw [e98] at Kq98 nF98_b92_dropsNames nF98_b92_nesting nF98_b92_passedOnDeclarations nF98_b92_passedOnChars nF98_b92_documentTypeDeclaration nF98_b92_bytes nF98_b92_stretch nF98_b92_started nF98_b92_internalGeneralEntity nF98_b92_internalParameterEntity nF98_b92_attributeList nF98_b92_declaringBytes
      replace E_b92 := E_b92.keep Kq98
      clear F_b92_dropsNames
      clear F_b92_nesting
      clear F_b92_passedOnDeclarations
      clear F_b92_passedOnChars
      clear F_b92_documentTypeDeclaration
      clear F_b92_bytes
      clear F_b92_stretch
      clear F_b92_started
      clear F_b92_internalGeneralEntity
      clear F_b92_internalParameterEntity
      clear F_b92_attributeList
      clear F_b92_declaringBytes
      replace Z0 := Nat.le_trans Z0 Kq98.1
      clear Kq98
      have F_b92_dropsNames := nF98_b92_dropsNames
      clear nF98_b92_dropsNames
      have F_b92_nesting := nF98_b92_nesting
      clear nF98_b92_nesting
      have F_b92_passedOnDeclarations := nF98_b92_passedOnDeclarations
      clear nF98_b92_passedOnDeclarations
      have F_b92_passedOnChars := nF98_b92_passedOnChars
      clear nF98_b92_passedOnChars
      have F_b92_documentTypeDeclaration := nF98_b92_documentTypeDeclaration
      clear nF98_b92_documentTypeDeclaration
      have F_b92_bytes := nF98_b92_bytes
      clear nF98_b92_bytes
      have F_b92_stretch := nF98_b92_stretch
      clear nF98_b92_stretch
      have F_b92_started := nF98_b92_started
      clear nF98_b92_started
      have F_b92_internalGeneralEntity := nF98_b92_internalGeneralEntity
      clear nF98_b92_internalGeneralEntity
      have F_b92_internalParameterEntity := nF98_b92_internalParameterEntity
      clear nF98_b92_internalParameterEntity
      have F_b92_attributeList := nF98_b92_attributeList
      clear nF98_b92_attributeList
      have F_b92_declaringBytes := nF98_b92_declaringBytes
      clear nF98_b92_declaringBytes
      show WP p.tables e below _ T98 (mkF m 48 #[.val (.int p1), .val (.int p2), .val (.long q1), .second, .val (.long q2), .second, .val (.int (0 : Int32)), .val (.int (1 : Int32)), .val (.ref b92), .val (.int (1 : Int32)), .unset, .unset, .unset, .unset] [])
      have bk99 : ∀ t, Steps p.tables e below (T98.setTop (mkF m 53 #[.val (.int p1), .val (.int p2), .val (.long q1), .second, .val (.long q2), .second, .val (.int (0 : Int32)), .val (.int (1 : Int32)), .val (.ref b92), .val (.int (1 : Int32)), .unset, .unset, .unset, .unset] [(.long q2), (.long q1), (.ref b92)])) t → Steps p.tables e below (T98.setTop (mkF m 48 #[.val (.int p1), .val (.int p2), .val (.long q1), .second, .val (.long q2), .second, .val (.int (0 : Int32)), .val (.int (1 : Int32)), .val (.ref b92), .val (.int (1 : Int32)), .unset, .unset, .unset, .unset] [])) t := fun t k => by
        refine XS.aload X98.here hx rfl (hb hby at_48) rfl rfl ?_
        show Steps p.tables e below (T98.setTop (mkF m 50 #[.val (.int p1), .val (.int p2), .val (.long q1), .second, .val (.long q2), .second, .val (.int (0 : Int32)), .val (.int (1 : Int32)), .val (.ref b92), .val (.int (1 : Int32)), .unset, .unset, .unset, .unset] [(.ref b92)])) t
        refine XS.lloadN X98.here hx rfl (hb hby at_50) rfl ?_
        show Steps p.tables e below (T98.setTop (mkF m 51 #[.val (.int p1), .val (.int p2), .val (.long q1), .second, .val (.long q2), .second, .val (.int (0 : Int32)), .val (.int (1 : Int32)), .val (.ref b92), .val (.int (1 : Int32)), .unset, .unset, .unset, .unset] [(.long q1), (.ref b92)])) t
        refine XS.lload X98.here hx rfl (hb hby at_51) rfl ?_
        exact k
      refine WP.st bk99 ?_
      clear bk99
      obtain ⟨cq100, kq100, q100a, q100b, q100c⟩ := isOf hZ e98 E_b92
      obtain ⟨_, _, ⟨T100, L100, k100, n100⟩, -, X100, ⟨Lc100, hQ100, l100, y100, z100⟩, st100⟩ := X98.virtualBack hx (y := (⟨"com/example/skope/skope/xml/Intake", "passOn", "(JJ)V"⟩ : MethodName)) (z := (⟨"com/example/skope/skope/xml/Intake", "passOn", "(JJ)V"⟩ : MethodName)) hown (mvT hZ (hw _ (List.mem_of_getElem? (i := 30) rfl))) (mvT hZ (hw _ (List.mem_of_getElem? (i := 31) rfl))) (notFace_of_selects (args := #[]) (mvT hZ (hw _ (List.mem_of_getElem? (i := 33) rfl)))) (mvT hZ (hw _ (List.mem_of_getElem? (i := 33) rfl))) (mvT hZ (hw _ (List.mem_of_getElem? (i := 32) rfl))) (by decide) (backOf (W := 0) (rm6 l Z a0 hw [] b92 q1 q2 (1 : Int32) (own_max (0 : Int32) p2) (0 : Int64) (0 : Int64) (0 : Int32) (0 : Int64) (0 : Int64) (0 : Int32) (0 : Int32) (0 : Int32) (0 : Int32) (0 : Int64) h98 n0 Z0 E_b92 g_b92 F_b92_dropsNames F_b92_nesting F_b92_passedOnDeclarations F_b92_passedOnChars F_b92_documentTypeDeclaration F_b92_bytes F_b92_stretch F_b92_started F_b92_internalGeneralEntity F_b92_internalParameterEntity F_b92_attributeList F_b92_declaringBytes) hZ (hw _ (List.mem_of_getElem? (i := 34) rfl)) (hw _ (List.mem_of_getElem? (i := 2) rfl)) (by decide) (by decide)) q100a q100c (g := (mkF m 53 #[.val (.int p1), .val (.int p2), .val (.long q1), .second, .val (.long q2), .second, .val (.int (0 : Int32)), .val (.int (1 : Int32)), .val (.ref b92), .val (.int (1 : Int32)), .unset, .unset, .unset, .unset] [(.long q2), (.long q1), (.ref b92)])) rfl (by rw [hml]; rfl) (Steps.refl _) (argsL := [(.long q1), (.long q2)]) (rest := []) (lenOf pd_4 rfl) rfl (by show 2 * 0 + _ ≤ _; exact Nat.le_of_eq rfl) (hb hby at_53) (fun _ _ => ⟨rfl, e98, (by decide : 2 + 0 ≤ _), (by decide : 15 + 0 ≤ _)⟩)
      dsimp only [Pt.U, Pt.locs, Pt.cells, Pt.slots] at X100 l100 y100 z100 st100 hQ100
      subst l100 y100 z100
      obtain ⟨rfl, Nq100, Kq100, nF100_b92_dropsNames, nF100_b92_nesting, nF100_b92_passedOnDeclarations, nF100_b92_passedOnChars, nF100_b92_documentTypeDeclaration, nF100_b92_bytes, nF100_b92_stretch, nF100_b92_started, nF100_b92_internalGeneralEntity, nF100_b92_internalParameterEntity, nF100_b92_attributeList, nF100_b92_declaringBytes⟩ := hQ100
      replace NF := Fr.app NF Nq100
      clear Nq100
      refine WP.tr st100 ?_
      clear st100
      obtain ⟨h100, e100⟩ : ∃ h, T100.heap = h := ⟨_, rfl⟩
      rw [e100] at Kq100 nF100_b92_dropsNames nF100_b92_nesting nF100_b92_passedOnDeclarations nF100_b92_passedOnChars nF100_b92_documentTypeDeclaration nF100_b92_bytes nF100_b92_stretch nF100_b92_started nF100_b92_internalGeneralEntity nF100_b92_internalParameterEntity nF100_b92_attributeList nF100_b92_declaringBytes
      replace E_b92 := E_b92.keep Kq100
      clear F_b92_dropsNames
      clear F_b92_nesting
      clear F_b92_passedOnDeclarations
      clear F_b92_passedOnChars
      clear F_b92_documentTypeDeclaration
      clear F_b92_bytes
      clear F_b92_stretch
      clear F_b92_started
      clear F_b92_internalGeneralEntity
      clear F_b92_internalParameterEntity
      clear F_b92_attributeList
      clear F_b92_declaringBytes
      replace Z0 := Nat.le_trans Z0 Kq100.1
      clear Kq100
      have F_b92_dropsNames := nF100_b92_dropsNames
      clear nF100_b92_dropsNames
      have F_b92_nesting := nF100_b92_nesting
      clear nF100_b92_nesting
      have F_b92_passedOnDeclarations := nF100_b92_passedOnDeclarations
      clear nF100_b92_passedOnDeclarations
      have F_b92_passedOnChars := nF100_b92_passedOnChars
      clear nF100_b92_passedOnChars
      have F_b92_documentTypeDeclaration := nF100_b92_documentTypeDeclaration
      clear nF100_b92_documentTypeDeclaration
      have F_b92_bytes := nF100_b92_bytes
      clear nF100_b92_bytes
      have F_b92_stretch := nF100_b92_stretch
      clear nF100_b92_stretch
      have F_b92_started := nF100_b92_started
      clear nF100_b92_started
      have F_b92_internalGeneralEntity := nF100_b92_internalGeneralEntity
      clear nF100_b92_internalGeneralEntity
      have F_b92_internalParameterEntity := nF100_b92_internalParameterEntity
      clear nF100_b92_internalParameterEntity
      have F_b92_attributeList := nF100_b92_attributeList
      clear nF100_b92_attributeList
      have F_b92_declaringBytes := nF100_b92_declaringBytes
      clear nF100_b92_declaringBytes
      show WP p.tables e below _ T100 (mkF m 56 #[.val (.int p1), .val (.int p2), .val (.long q1), .second, .val (.long q2), .second, .val (.int (0 : Int32)), .val (.int (1 : Int32)), .val (.ref b92), .val (.int (1 : Int32)), .unset, .unset, .unset, .unset] [])
      have bk101 : ∀ t, Steps p.tables e below (T100.setTop (mkF m 60 #[.val (.int p1), .val (.int p2), .val (.long q1), .second, .val (.long q2), .second, .val (.int (0 : Int32)), .val (.int (1 : Int32)), .val (.ref b92), .val (.int (1 : Int32)), .unset, .unset, .unset, .unset] [(.int (0 : Int32)), (.ref b92)])) t → Steps p.tables e below (T100.setTop (mkF m 56 #[.val (.int p1), .val (.int p2), .val (.long q1), .second, .val (.long q2), .second, .val (.int (0 : Int32)), .val (.int (1 : Int32)), .val (.ref b92), .val (.int (1 : Int32)), .unset, .unset, .unset, .unset] [])) t := fun t k => by
        refine XS.aload X100.here hx rfl (hb hby at_56) rfl rfl ?_
        show Steps p.tables e below (T100.setTop (mkF m 58 #[.val (.int p1), .val (.int p2), .val (.long q1), .second, .val (.long q2), .second, .val (.int (0 : Int32)), .val (.int (1 : Int32)), .val (.ref b92), .val (.int (1 : Int32)), .unset, .unset, .unset, .unset] [(.ref b92)])) t
        refine XS.iload X100.here hx rfl (hb hby at_58) rfl ?_
        exact k
      refine WP.st bk101 ?_
      clear bk101
      obtain ⟨cq102, kq102, q102a, q102b, q102c⟩ := isOf hZ e100 E_b92
      obtain ⟨_, _, ⟨T102, L102, k102, n102⟩, -, X102, ⟨Lc102, hQ102, l102, y102, z102⟩, st102⟩ := X100.virtualBack hx (y := (⟨"com/example/skope/skope/xml/Intake", "dropNames", "(Z)V"⟩ : MethodName)) (z := (⟨"com/example/skope/skope/xml/Intake", "dropNames", "(Z)V"⟩ : MethodName)) hown (mvT hZ (hw _ (List.mem_of_getElem? (i := 39) rfl))) (mvT hZ (hw _ (List.mem_of_getElem? (i := 40) rfl))) (notFace_of_selects (args := #[]) (mvT hZ (hw _ (List.mem_of_getElem? (i := 42) rfl)))) (mvT hZ (hw _ (List.mem_of_getElem? (i := 42) rfl))) (mvT hZ (hw _ (List.mem_of_getElem? (i := 41) rfl))) (by decide) (backOf (W := 0) (rm7 l Z a0 hw [] b92 (0 : Int32) (1 : Int32) (own_max (0 : Int32) p2) q1 q2 (0 : Int32) (0 : Int64) (0 : Int64) (0 : Int32) (0 : Int32) (0 : Int32) (0 : Int32) (0 : Int64) h100 n0 Z0 E_b92 g_b92 F_b92_dropsNames F_b92_nesting F_b92_passedOnDeclarations F_b92_passedOnChars F_b92_documentTypeDeclaration F_b92_bytes F_b92_stretch F_b92_started F_b92_internalGeneralEntity F_b92_internalParameterEntity F_b92_attributeList F_b92_declaringBytes (by decide : (0 : Int32) = 0 ∨ (0 : Int32) = 1)) hZ (hw _ (List.mem_of_getElem? (i := 43) rfl)) (hw _ (List.mem_of_getElem? (i := 2) rfl)) (by decide) (by decide)) q102a q102c (g := (mkF m 60 #[.val (.int p1), .val (.int p2), .val (.long q1), .second, .val (.long q2), .second, .val (.int (0 : Int32)), .val (.int (1 : Int32)), .val (.ref b92), .val (.int (1 : Int32)), .unset, .unset, .unset, .unset] [(.int (0 : Int32)), (.ref b92)])) rfl (by rw [hml]; rfl) (Steps.refl _) (argsL := [(.int (0 : Int32))]) (rest := []) (lenOf pd_5 rfl) rfl (by show 2 * 0 + _ ≤ _; exact Nat.le_of_eq rfl) (hb hby at_60) (fun _ _ => ⟨rfl, e100, (by decide : 2 + 0 ≤ _), (by decide : 15 + 0 ≤ _)⟩)
      dsimp only [Pt.U, Pt.locs, Pt.cells, Pt.slots] at X102 l102 y102 z102 st102 hQ102
      subst l102 y102 z102
      obtain ⟨rfl, Nq102, Kq102, nF102_b92_dropsNames, nF102_b92_nesting, nF102_b92_passedOnDeclarations, nF102_b92_passedOnChars, nF102_b92_documentTypeDeclaration, nF102_b92_bytes, nF102_b92_stretch, nF102_b92_started, nF102_b92_internalGeneralEntity, nF102_b92_internalParameterEntity, nF102_b92_attributeList, nF102_b92_declaringBytes⟩ := hQ102
      replace NF := Fr.app NF Nq102
      clear Nq102
      refine WP.tr st102 ?_
      clear st102
      obtain ⟨h102, e102⟩ : ∃ h, T102.heap = h := ⟨_, rfl⟩
      rw [e102] at Kq102 nF102_b92_dropsNames nF102_b92_nesting nF102_b92_passedOnDeclarations nF102_b92_passedOnChars nF102_b92_documentTypeDeclaration nF102_b92_bytes nF102_b92_stretch nF102_b92_started nF102_b92_internalGeneralEntity nF102_b92_internalParameterEntity nF102_b92_attributeList nF102_b92_declaringBytes
      replace E_b92 := E_b92.keep Kq102
      clear F_b92_dropsNames
      clear F_b92_nesting
      clear F_b92_passedOnDeclarations
      clear F_b92_passedOnChars
      clear F_b92_documentTypeDeclaration
      clear F_b92_bytes
      clear F_b92_stretch
      clear F_b92_started
      clear F_b92_internalGeneralEntity
      clear F_b92_internalParameterEntity
      clear F_b92_attributeList
      clear F_b92_declaringBytes
      replace Z0 := Nat.le_trans Z0 Kq102.1
      clear Kq102
      have F_b92_dropsNames := nF102_b92_dropsNames
      clear nF102_b92_dropsNames
      have F_b92_nesting := nF102_b92_nesting
      clear nF102_b92_nesting
      have F_b92_passedOnDeclarations := nF102_b92_passedOnDeclarations
      clear nF102_b92_passedOnDeclarations
      have F_b92_passedOnChars := nF102_b92_passedOnChars
      clear nF102_b92_passedOnChars
      have F_b92_documentTypeDeclaration := nF102_b92_documentTypeDeclaration
      clear nF102_b92_documentTypeDeclaration
      have F_b92_bytes := nF102_b92_bytes
      clear nF102_b92_bytes
      have F_b92_stretch := nF102_b92_stretch
      clear nF102_b92_stretch
      have F_b92_started := nF102_b92_started
      clear nF102_b92_started
      have F_b92_internalGeneralEntity := nF102_b92_internalGeneralEntity
      clear nF102_b92_internalGeneralEntity
      have F_b92_internalParameterEntity := nF102_b92_internalParameterEntity
      clear nF102_b92_internalParameterEntity
      have F_b92_attributeList := nF102_b92_attributeList
      clear nF102_b92_attributeList
      have F_b92_declaringBytes := nF102_b92_declaringBytes
      clear nF102_b92_declaringBytes
      show WP p.tables e below _ T102 (mkF m 63 #[.val (.int p1), .val (.int p2), .val (.long q1), .second, .val (.long q2), .second, .val (.int (0 : Int32)), .val (.int (1 : Int32)), .val (.ref b92), .val (.int (1 : Int32)), .unset, .unset, .unset, .unset] [])
      have bk103 : ∀ t, Steps p.tables e below (T102.setTop (mkF m 65 #[.val (.int p1), .val (.int p2), .val (.long q1), .second, .val (.long q2), .second, .val (.int (0 : Int32)), .val (.int (1 : Int32)), .val (.ref b92), .val (.int (1 : Int32)), .unset, .unset, .unset, .unset] [(.ref b92)])) t → Steps p.tables e below (T102.setTop (mkF m 63 #[.val (.int p1), .val (.int p2), .val (.long q1), .second, .val (.long q2), .second, .val (.int (0 : Int32)), .val (.int (1 : Int32)), .val (.ref b92), .val (.int (1 : Int32)), .unset, .unset, .unset, .unset] [])) t := fun t k => by
        refine XS.aload X102.here hx rfl (hb hby at_63) rfl rfl ?_
        exact k
      refine WP.st bk103 ?_
      clear bk103
      obtain ⟨cq104, kq104, q104a, q104b, q104c⟩ := isOf hZ e102 E_b92
      obtain ⟨_, _, ⟨T104, L104, k104, n104⟩, -, X104, ⟨Lc104, hQ104, l104, y104, z104⟩, st104⟩ := X102.virtualBack hx (y := (⟨"com/example/skope/skope/xml/Intake", "dropsNames", "()Z"⟩ : MethodName)) (z := (⟨"com/example/skope/skope/xml/Intake", "dropsNames", "()Z"⟩ : MethodName)) hown (mvT hZ (hw _ (List.mem_of_getElem? (i := 14) rfl))) (mvT hZ (hw _ (List.mem_of_getElem? (i := 15) rfl))) (notFace_of_selects (args := #[]) (mvT hZ (hw _ (List.mem_of_getElem? (i := 17) rfl)))) (mvT hZ (hw _ (List.mem_of_getElem? (i := 17) rfl))) (mvT hZ (hw _ (List.mem_of_getElem? (i := 16) rfl))) (by decide) (backOf (W := 0) (rm3 l Z a0 hw [] b92 (0 : Int32) h102 n0 Z0 F_b92_dropsNames) hZ (hw _ (List.mem_of_getElem? (i := 18) rfl)) (hw _ (List.mem_of_getElem? (i := 2) rfl)) (by decide) (by decide)) q104a q104c (g := (mkF m 65 #[.val (.int p1), .val (.int p2), .val (.long q1), .second, .val (.long q2), .second, .val (.int (0 : Int32)), .val (.int (1 : Int32)), .val (.ref b92), .val (.int (1 : Int32)), .unset, .unset, .unset, .unset] [(.ref b92)])) rfl (by rw [hml]; rfl) (Steps.refl _) (argsL := []) (rest := []) (lenOf pd_2 rfl) rfl (by show 2 * 0 + _ ≤ _; exact Nat.le_of_eq rfl) (hb hby at_65) (fun _ _ => ⟨rfl, e102, (by decide : 2 + 0 ≤ _), (by decide : 15 + 0 ≤ _)⟩)
      dsimp only [Pt.U, Pt.locs, Pt.cells, Pt.slots] at X104 l104 y104 z104 st104 hQ104
      subst l104 y104 z104
      obtain ⟨rfl, Nq104, Kq104⟩ := hQ104
      replace NF := Fr.app NF Nq104
      clear Nq104
      refine WP.tr st104 ?_
      clear st104
      replace Kq104 := Kq104.trans (rfl : h102 = h102)
      show WP p.tables e below _ T104 (mkF m 68 #[.val (.int p1), .val (.int p2), .val (.long q1), .second, .val (.long q2), .second, .val (.int (0 : Int32)), .val (.int (1 : Int32)), .val (.ref b92), .val (.int (1 : Int32)), .unset, .unset, .unset, .unset] [(.int (nar .boolean (0 : Int32)))])
      rw [show (nar .boolean (0 : Int32)) = (0 : Int32) from by decide]
      show WP p.tables e below _ T104 (mkF m 68 #[.val (.int p1), .val (.int p2), .val (.long q1), .second, .val (.long q2), .second, .val (.int (0 : Int32)), .val (.int (1 : Int32)), .val (.ref b92), .val (.int (1 : Int32)), .unset, .unset, .unset, .unset] [(.int (0 : Int32))])
      have bk105 : ∀ t, Steps p.tables e below (T104.setTop (mkF m 82 #[.val (.int p1), .val (.int p2), .val (.long q1), .second, .val (.long q2), .second, .val (.int (0 : Int32)), .val (.int (1 : Int32)), .val (.ref b92), .val (.int (1 : Int32)), .val (.int (1 : Int32)), .unset, .unset, .unset] [(.ref b92)])) t → Steps p.tables e below (T104.setTop (mkF m 68 #[.val (.int p1), .val (.int p2), .val (.long q1), .second, .val (.long q2), .second, .val (.int (0 : Int32)), .val (.int (1 : Int32)), .val (.ref b92), .val (.int (1 : Int32)), .unset, .unset, .unset, .unset] [(.int (0 : Int32))])) t := fun t k => by
        refine XS.iload X104.here hx rfl (hb hby at_68) rfl ?_
        show Steps p.tables e below (T104.setTop (mkF m 70 #[.val (.int p1), .val (.int p2), .val (.long q1), .second, .val (.long q2), .second, .val (.int (0 : Int32)), .val (.int (1 : Int32)), .val (.ref b92), .val (.int (1 : Int32)), .unset, .unset, .unset, .unset] [(.int (0 : Int32)), (.int (0 : Int32))])) t
        refine XS.icmpNo X104.here hx rfl (hb hby at_70) rfl (teq (by decide : (0 : Int32) = (0 : Int32))).2 ?_
        show Steps p.tables e below (T104.setTop (mkF m 73 #[.val (.int p1), .val (.int p2), .val (.long q1), .second, .val (.long q2), .second, .val (.int (0 : Int32)), .val (.int (1 : Int32)), .val (.ref b92), .val (.int (1 : Int32)), .unset, .unset, .unset, .unset] [])) t
        refine XS.iconst X104.here hx rfl (hb hby at_73) ?_
        show Steps p.tables e below (T104.setTop (mkF m 74 #[.val (.int p1), .val (.int p2), .val (.long q1), .second, .val (.long q2), .second, .val (.int (0 : Int32)), .val (.int (1 : Int32)), .val (.ref b92), .val (.int (1 : Int32)), .unset, .unset, .unset, .unset] [(.int (1 : Int32))])) t
        refine XS.goto X104.here hx rfl (pc0 := 74) (pc' := 78) rfl (hb hby at_74) (by decide) (by decide) ?_
        show Steps p.tables e below (T104.setTop (mkF m 78 #[.val (.int p1), .val (.int p2), .val (.long q1), .second, .val (.long q2), .second, .val (.int (0 : Int32)), .val (.int (1 : Int32)), .val (.ref b92), .val (.int (1 : Int32)), .unset, .unset, .unset, .unset] [(.int (1 : Int32))])) t
        refine XS.istore X104.here hx rfl (hb hby at_78) rfl (l' := #[.val (.int p1), .val (.int p2), .val (.long q1), .second, .val (.long q2), .second, .val (.int (0 : Int32)), .val (.int (1 : Int32)), .val (.ref b92), .val (.int (1 : Int32)), .val (.int (1 : Int32)), .unset, .unset, .unset]) rfl ?_
        show Steps p.tables e below (T104.setTop (mkF m 80 #[.val (.int p1), .val (.int p2), .val (.long q1), .second, .val (.long q2), .second, .val (.int (0 : Int32)), .val (.int (1 : Int32)), .val (.ref b92), .val (.int (1 : Int32)), .val (.int (1 : Int32)), .unset, .unset, .unset] [])) t
        refine XS.aload X104.here hx rfl (hb hby at_80) rfl rfl ?_
        exact k
      refine WP.st bk105 ?_
      clear bk105
      obtain ⟨cq106, kq106, q106a, q106b, q106c⟩ := isOf hZ Kq104 E_b92
      obtain ⟨_, _, ⟨T106, L106, k106, n106⟩, -, X106, ⟨Lc106, hQ106, l106, y106, z106⟩, st106⟩ := X104.virtualBack hx (y := (⟨"com/example/skope/skope/xml/Intake", "clear", "()V"⟩ : MethodName)) (z := (⟨"com/example/skope/skope/xml/Intake", "clear", "()V"⟩ : MethodName)) hown (mvT hZ (hw _ (List.mem_of_getElem? (i := 44) rfl))) (mvT hZ (hw _ (List.mem_of_getElem? (i := 45) rfl))) (notFace_of_selects (args := #[]) (mvT hZ (hw _ (List.mem_of_getElem? (i := 47) rfl)))) (mvT hZ (hw _ (List.mem_of_getElem? (i := 47) rfl))) (mvT hZ (hw _ (List.mem_of_getElem? (i := 46) rfl))) (by decide) (backOf (W := 0) (rm8 l Z a0 hw [] b92 (0 : Int32) (own_max (0 : Int32) p2) q1 q2 (0 : Int32) (0 : Int64) (0 : Int64) (0 : Int32) (0 : Int32) (0 : Int32) (0 : Int32) (if (0 : Int32) = 0 then (0 : Int64) else 0) h102 n0 Z0 E_b92 g_b92 F_b92_dropsNames F_b92_nesting F_b92_passedOnDeclarations F_b92_passedOnChars F_b92_documentTypeDeclaration F_b92_bytes F_b92_stretch F_b92_started F_b92_internalGeneralEntity F_b92_internalParameterEntity F_b92_attributeList F_b92_declaringBytes (by decide : (0 : Int32) = (0 : Int32))) hZ (hw _ (List.mem_of_getElem? (i := 48) rfl)) (hw _ (List.mem_of_getElem? (i := 2) rfl)) (by decide) (by decide)) q106a q106c (g := (mkF m 82 #[.val (.int p1), .val (.int p2), .val (.long q1), .second, .val (.long q2), .second, .val (.int (0 : Int32)), .val (.int (1 : Int32)), .val (.ref b92), .val (.int (1 : Int32)), .val (.int (1 : Int32)), .unset, .unset, .unset] [(.ref b92)])) rfl (by rw [hml]; rfl) (Steps.refl _) (argsL := []) (rest := []) (lenOf pd_1 rfl) rfl (by show 2 * 0 + _ ≤ _; exact Nat.le_of_eq rfl) (hb hby at_82) (fun _ _ => ⟨rfl, Kq104, (by decide : 2 + 0 ≤ _), (by decide : 15 + 0 ≤ _)⟩)
      dsimp only [Pt.U, Pt.locs, Pt.cells, Pt.slots] at X106 l106 y106 z106 st106 hQ106
      subst l106 y106 z106
      obtain ⟨rfl, Nq106, Kq106, nF106_b92_dropsNames, nF106_b92_nesting, nF106_b92_passedOnDeclarations, nF106_b92_passedOnChars, nF106_b92_documentTypeDeclaration, nF106_b92_bytes, nF106_b92_stretch, nF106_b92_started, nF106_b92_internalGeneralEntity, nF106_b92_internalParameterEntity, nF106_b92_attributeList, nF106_b92_declaringBytes⟩ := hQ106
      replace NF := Fr.app NF Nq106
      clear Nq106
      refine WP.tr st106 ?_
      clear st106
      obtain ⟨h106, e106⟩ : ∃ h, T106.heap = h := ⟨_, rfl⟩
      rw [e106] at Kq106 nF106_b92_dropsNames nF106_b92_nesting nF106_b92_passedOnDeclarations nF106_b92_passedOnChars nF106_b92_documentTypeDeclaration nF106_b92_bytes nF106_b92_stretch nF106_b92_started nF106_b92_internalGeneralEntity nF106_b92_internalParameterEntity nF106_b92_attributeList nF106_b92_declaringBytes
      replace E_b92 := E_b92.keep Kq106
      clear F_b92_dropsNames
      clear F_b92_nesting
      clear F_b92_passedOnDeclarations
      clear F_b92_passedOnChars
      clear F_b92_documentTypeDeclaration
      clear F_b92_bytes
      clear F_b92_stretch
      clear F_b92_started
      clear F_b92_internalGeneralEntity
      clear F_b92_internalParameterEntity
      clear F_b92_attributeList
      clear F_b92_declaringBytes
      replace Z0 := Nat.le_trans Z0 Kq106.1
      clear Kq106
      have F_b92_dropsNames := nF106_b92_dropsNames
      clear nF106_b92_dropsNames
      have F_b92_nesting := nF106_b92_nesting
      clear nF106_b92_nesting
      have F_b92_passedOnDeclarations := nF106_b92_passedOnDeclarations
      clear nF106_b92_passedOnDeclarations
      have F_b92_passedOnChars := nF106_b92_passedOnChars
      clear nF106_b92_passedOnChars
      have F_b92_documentTypeDeclaration := nF106_b92_documentTypeDeclaration
      clear nF106_b92_documentTypeDeclaration
      have F_b92_bytes := nF106_b92_bytes
      clear nF106_b92_bytes
      have F_b92_stretch := nF106_b92_stretch
      clear nF106_b92_stretch
      have F_b92_started := nF106_b92_started
      clear nF106_b92_started
      have F_b92_internalGeneralEntity := nF106_b92_internalGeneralEntity
      clear nF106_b92_internalGeneralEntity
      have F_b92_internalParameterEntity := nF106_b92_internalParameterEntity
      clear nF106_b92_internalParameterEntity
      have F_b92_attributeList := nF106_b92_attributeList
      clear nF106_b92_attributeList
      have F_b92_declaringBytes := nF106_b92_declaringBytes
      clear nF106_b92_declaringBytes
      show WP p.tables e below _ T106 (mkF m 85 #[.val (.int p1), .val (.int p2), .val (.long q1), .second, .val (.long q2), .second, .val (.int (0 : Int32)), .val (.int (1 : Int32)), .val (.ref b92), .val (.int (1 : Int32)), .val (.int (1 : Int32)), .unset, .unset, .unset] [])
      have bk107 : ∀ t, Steps p.tables e below (T106.setTop (mkF m 87 #[.val (.int p1), .val (.int p2), .val (.long q1), .second, .val (.long q2), .second, .val (.int (0 : Int32)), .val (.int (1 : Int32)), .val (.ref b92), .val (.int (1 : Int32)), .val (.int (1 : Int32)), .unset, .unset, .unset] [(.ref b92)])) t → Steps p.tables e below (T106.setTop (mkF m 85 #[.val (.int p1), .val (.int p2), .val (.long q1), .second, .val (.long q2), .second, .val (.int (0 : Int32)), .val (.int (1 : Int32)), .val (.ref b92), .val (.int (1 : Int32)), .val (.int (1 : Int32)), .unset, .unset, .unset] [])) t := fun t k => by
        refine XS.aload X106.here hx rfl (hb hby at_85) rfl rfl ?_
        exact k
      refine WP.st bk107 ?_
      clear bk107
      obtain ⟨cq108, kq108, q108a, q108b, q108c⟩ := isOf hZ e106 E_b92
      obtain ⟨_, _, ⟨T108, L108, k108, n108⟩, -, X108, ⟨Lc108, hQ108, l108, y108, z108⟩, st108⟩ := X106.virtualBack hx (y := (⟨"com/example/skope/skope/xml/Intake", "dropsNames", "()Z"⟩ : MethodName)) (z := (⟨"com/example/skope/skope/xml/Intake", "dropsNames", "()Z"⟩ : MethodName)) hown (mvT hZ (hw _ (List.mem_of_getElem? (i := 14) rfl))) (mvT hZ (hw _ (List.mem_of_getElem? (i := 15) rfl))) (notFace_of_selects (args := #[]) (mvT hZ (hw _ (List.mem_of_getElem? (i := 17) rfl)))) (mvT hZ (hw _ (List.mem_of_getElem? (i := 17) rfl))) (mvT hZ (hw _ (List.mem_of_getElem? (i := 16) rfl))) (by decide) (backOf (W := 0) (rm3 l Z a0 hw [] b92 (0 : Int32) h106 n0 Z0 F_b92_dropsNames) hZ (hw _ (List.mem_of_getElem? (i := 18) rfl)) (hw _ (List.mem_of_getElem? (i := 2) rfl)) (by decide) (by decide)) q108a q108c (g := (mkF m 87 #[.val (.int p1), .val (.int p2), .val (.long q1), .second, .val (.long q2), .second, .val (.int (0 : Int32)), .val (.int (1 : Int32)), .val (.ref b92), .val (.int (1 : Int32)), .val (.int (1 : Int32)), .unset, .unset, .unset] [(.ref b92)])) rfl (by rw [hml]; rfl) (Steps.refl _) (argsL := []) (rest := []) (lenOf pd_2 rfl) rfl (by show 2 * 0 + _ ≤ _; exact Nat.le_of_eq rfl) (hb hby at_87) (fun _ _ => ⟨rfl, e106, (by decide : 2 + 0 ≤ _), (by decide : 15 + 0 ≤ _)⟩)
      dsimp only [Pt.U, Pt.locs, Pt.cells, Pt.slots] at X108 l108 y108 z108 st108 hQ108
      subst l108 y108 z108
      obtain ⟨rfl, Nq108, Kq108⟩ := hQ108
      replace NF := Fr.app NF Nq108
      clear Nq108
      refine WP.tr st108 ?_
      clear st108
      replace Kq108 := Kq108.trans (rfl : h106 = h106)
      show WP p.tables e below _ T108 (mkF m 90 #[.val (.int p1), .val (.int p2), .val (.long q1), .second, .val (.long q2), .second, .val (.int (0 : Int32)), .val (.int (1 : Int32)), .val (.ref b92), .val (.int (1 : Int32)), .val (.int (1 : Int32)), .unset, .unset, .unset] [(.int (nar .boolean (0 : Int32)))])
      rw [show (nar .boolean (0 : Int32)) = (0 : Int32) from by decide]
      show WP p.tables e below _ T108 (mkF m 90 #[.val (.int p1), .val (.int p2), .val (.long q1), .second, .val (.long q2), .second, .val (.int (0 : Int32)), .val (.int (1 : Int32)), .val (.ref b92), .val (.int (1 : Int32)), .val (.int (1 : Int32)), .unset, .unset, .unset] [(.int (0 : Int32))])
      have bk109 : ∀ t, Steps p.tables e below (T108.setTop (mkF m 106 #[.val (.int p1), .val (.int p2), .val (.long q1), .second, .val (.long q2), .second, .val (.int (0 : Int32)), .val (.int (1 : Int32)), .val (.ref b92), .val (.int (1 : Int32)), .val (.int (1 : Int32)), .val (.int (1 : Int32)), .unset, .unset] [(.int (1 : Int32)), (.ref b92)])) t → Steps p.tables e below (T108.setTop (mkF m 90 #[.val (.int p1), .val (.int p2), .val (.long q1), .second, .val (.long q2), .second, .val (.int (0 : Int32)), .val (.int (1 : Int32)), .val (.ref b92), .val (.int (1 : Int32)), .val (.int (1 : Int32)), .unset, .unset, .unset] [(.int (0 : Int32))])) t := fun t k => by
        refine XS.iload X108.here hx rfl (hb hby at_90) rfl ?_
        show Steps p.tables e below (T108.setTop (mkF m 92 #[.val (.int p1), .val (.int p2), .val (.long q1), .second, .val (.long q2), .second, .val (.int (0 : Int32)), .val (.int (1 : Int32)), .val (.ref b92), .val (.int (1 : Int32)), .val (.int (1 : Int32)), .unset, .unset, .unset] [(.int (0 : Int32)), (.int (0 : Int32))])) t
        refine XS.icmpNo X108.here hx rfl (hb hby at_92) rfl (teq (by decide : (0 : Int32) = (0 : Int32))).2 ?_
        show Steps p.tables e below (T108.setTop (mkF m 95 #[.val (.int p1), .val (.int p2), .val (.long q1), .second, .val (.long q2), .second, .val (.int (0 : Int32)), .val (.int (1 : Int32)), .val (.ref b92), .val (.int (1 : Int32)), .val (.int (1 : Int32)), .unset, .unset, .unset] [])) t
        refine XS.iconst X108.here hx rfl (hb hby at_95) ?_
        show Steps p.tables e below (T108.setTop (mkF m 96 #[.val (.int p1), .val (.int p2), .val (.long q1), .second, .val (.long q2), .second, .val (.int (0 : Int32)), .val (.int (1 : Int32)), .val (.ref b92), .val (.int (1 : Int32)), .val (.int (1 : Int32)), .unset, .unset, .unset] [(.int (1 : Int32))])) t
        refine XS.goto X108.here hx rfl (pc0 := 96) (pc' := 100) rfl (hb hby at_96) (by decide) (by decide) ?_
        show Steps p.tables e below (T108.setTop (mkF m 100 #[.val (.int p1), .val (.int p2), .val (.long q1), .second, .val (.long q2), .second, .val (.int (0 : Int32)), .val (.int (1 : Int32)), .val (.ref b92), .val (.int (1 : Int32)), .val (.int (1 : Int32)), .unset, .unset, .unset] [(.int (1 : Int32))])) t
        refine XS.istore X108.here hx rfl (hb hby at_100) rfl (l' := #[.val (.int p1), .val (.int p2), .val (.long q1), .second, .val (.long q2), .second, .val (.int (0 : Int32)), .val (.int (1 : Int32)), .val (.ref b92), .val (.int (1 : Int32)), .val (.int (1 : Int32)), .val (.int (1 : Int32)), .unset, .unset]) rfl ?_
        show Steps p.tables e below (T108.setTop (mkF m 102 #[.val (.int p1), .val (.int p2), .val (.long q1), .second, .val (.long q2), .second, .val (.int (0 : Int32)), .val (.int (1 : Int32)), .val (.ref b92), .val (.int (1 : Int32)), .val (.int (1 : Int32)), .val (.int (1 : Int32)), .unset, .unset] [])) t
        refine XS.aload X108.here hx rfl (hb hby at_102) rfl rfl ?_
        show Steps p.tables e below (T108.setTop (mkF m 104 #[.val (.int p1), .val (.int p2), .val (.long q1), .second, .val (.long q2), .second, .val (.int (0 : Int32)), .val (.int (1 : Int32)), .val (.ref b92), .val (.int (1 : Int32)), .val (.int (1 : Int32)), .val (.int (1 : Int32)), .unset, .unset] [(.ref b92)])) t
        refine XS.iload X108.here hx rfl (hb hby at_104) rfl ?_
        exact k
      refine WP.st bk109 ?_
      clear bk109
      obtain ⟨cq110, kq110, q110a, q110b, q110c⟩ := isOf hZ Kq108 E_b92
      obtain ⟨_, _, ⟨T110, L110, k110, n110⟩, -, X110, ⟨Lc110, hQ110, l110, y110, z110⟩, st110⟩ := X108.virtualBack hx (y := (⟨"com/example/skope/skope/xml/Intake", "dropNames", "(Z)V"⟩ : MethodName)) (z := (⟨"com/example/skope/skope/xml/Intake", "dropNames", "(Z)V"⟩ : MethodName)) hown (mvT hZ (hw _ (List.mem_of_getElem? (i := 39) rfl))) (mvT hZ (hw _ (List.mem_of_getElem? (i := 40) rfl))) (notFace_of_selects (args := #[]) (mvT hZ (hw _ (List.mem_of_getElem? (i := 42) rfl)))) (mvT hZ (hw _ (List.mem_of_getElem? (i := 42) rfl))) (mvT hZ (hw _ (List.mem_of_getElem? (i := 41) rfl))) (by decide) (backOf (W := 0) (rm7 l Z a0 hw [] b92 (1 : Int32) (0 : Int32) (own_max (0 : Int32) p2) q1 q2 (0 : Int32) (0 : Int64) (0 : Int64) (0 : Int32) (0 : Int32) (0 : Int32) (0 : Int32) (if (0 : Int32) = 0 then (0 : Int64) else 0) h106 n0 Z0 E_b92 g_b92 F_b92_dropsNames F_b92_nesting F_b92_passedOnDeclarations F_b92_passedOnChars F_b92_documentTypeDeclaration F_b92_bytes F_b92_stretch F_b92_started F_b92_internalGeneralEntity F_b92_internalParameterEntity F_b92_attributeList F_b92_declaringBytes (by decide : (1 : Int32) = 0 ∨ (1 : Int32) = 1)) hZ (hw _ (List.mem_of_getElem? (i := 43) rfl)) (hw _ (List.mem_of_getElem? (i := 2) rfl)) (by decide) (by decide)) q110a q110c (g := (mkF m 106 #[.val (.int p1), .val (.int p2), .val (.long q1), .second, .val (.long q2), .second, .val (.int (0 : Int32)), .val (.int (1 : Int32)), .val (.ref b92), .val (.int (1 : Int32)), .val (.int (1 : Int32)), .val (.int (1 : Int32)), .unset, .unset] [(.int (1 : Int32)), (.ref b92)])) rfl (by rw [hml]; rfl) (Steps.refl _) (argsL := [(.int (1 : Int32))]) (rest := []) (lenOf pd_5 rfl) rfl (by show 2 * 0 + _ ≤ _; exact Nat.le_of_eq rfl) (hb hby at_106) (fun _ _ => ⟨rfl, Kq108, (by decide : 2 + 0 ≤ _), (by decide : 15 + 0 ≤ _)⟩)
      dsimp only [Pt.U, Pt.locs, Pt.cells, Pt.slots] at X110 l110 y110 z110 st110 hQ110
      subst l110 y110 z110
      obtain ⟨rfl, Nq110, Kq110, nF110_b92_dropsNames, nF110_b92_nesting, nF110_b92_passedOnDeclarations, nF110_b92_passedOnChars, nF110_b92_documentTypeDeclaration, nF110_b92_bytes, nF110_b92_stretch, nF110_b92_started, nF110_b92_internalGeneralEntity, nF110_b92_internalParameterEntity, nF110_b92_attributeList, nF110_b92_declaringBytes⟩ := hQ110
      replace NF := Fr.app NF Nq110
      clear Nq110
      refine WP.tr st110 ?_
      clear st110
      obtain ⟨h110, e110⟩ : ∃ h, T110.heap = h := ⟨_, rfl⟩
      rw [e110] at Kq110 nF110_b92_dropsNames nF110_b92_nesting nF110_b92_passedOnDeclarations nF110_b92_passedOnChars nF110_b92_documentTypeDeclaration nF110_b92_bytes nF110_b92_stretch nF110_b92_started nF110_b92_internalGeneralEntity nF110_b92_internalParameterEntity nF110_b92_attributeList nF110_b92_declaringBytes
      replace E_b92 := E_b92.keep Kq110
      clear F_b92_dropsNames
      clear F_b92_nesting
      clear F_b92_passedOnDeclarations
      clear F_b92_passedOnChars
      clear F_b92_documentTypeDeclaration
      clear F_b92_bytes
      clear F_b92_stretch
      clear F_b92_started
      clear F_b92_internalGeneralEntity
      clear F_b92_internalParameterEntity
      clear F_b92_attributeList
      clear F_b92_declaringBytes
      replace Z0 := Nat.le_trans Z0 Kq110.1
      clear Kq110
      have F_b92_dropsNames := nF110_b92_dropsNames
      clear nF110_b92_dropsNames
      have F_b92_nesting := nF110_b92_nesting
      clear nF110_b92_nesting
      have F_b92_passedOnDeclarations := nF110_b92_passedOnDeclarations
      clear nF110_b92_passedOnDeclarations
      have F_b92_passedOnChars := nF110_b92_passedOnChars
      clear nF110_b92_passedOnChars
      have F_b92_documentTypeDeclaration := nF110_b92_documentTypeDeclaration
      clear nF110_b92_documentTypeDeclaration
      have F_b92_bytes := nF110_b92_bytes
      clear nF110_b92_bytes
      have F_b92_stretch := nF110_b92_stretch
      clear nF110_b92_stretch
      have F_b92_started := nF110_b92_started
      clear nF110_b92_started
      have F_b92_internalGeneralEntity := nF110_b92_internalGeneralEntity
      clear nF110_b92_internalGeneralEntity
      have F_b92_internalParameterEntity := nF110_b92_internalParameterEntity
      clear nF110_b92_internalParameterEntity
      have F_b92_attributeList := nF110_b92_attributeList
      clear nF110_b92_attributeList
      have F_b92_declaringBytes := nF110_b92_declaringBytes
      clear nF110_b92_declaringBytes
      show WP p.tables e below _ T110 (mkF m 109 #[.val (.int p1), .val (.int p2), .val (.long q1), .second, .val (.long q2), .second, .val (.int (0 : Int32)), .val (.int (1 : Int32)), .val (.ref b92), .val (.int (1 : Int32)), .val (.int (1 : Int32)), .val (.int (1 : Int32)), .unset, .unset] [])
      have bk111 : ∀ t, Steps p.tables e below (T110.setTop (mkF m 111 #[.val (.int p1), .val (.int p2), .val (.long q1), .second, .val (.long q2), .second, .val (.int (0 : Int32)), .val (.int (1 : Int32)), .val (.ref b92), .val (.int (1 : Int32)), .val (.int (1 : Int32)), .val (.int (1 : Int32)), .unset, .unset] [(.ref b92)])) t → Steps p.tables e below (T110.setTop (mkF m 109 #[.val (.int p1), .val (.int p2), .val (.long q1), .second, .val (.long q2), .second, .val (.int (0 : Int32)), .val (.int (1 : Int32)), .val (.ref b92), .val (.int (1 : Int32)), .val (.int (1 : Int32)), .val (.int (1 : Int32)), .unset, .unset] [])) t := fun t k => by
        refine XS.aload X110.here hx rfl (hb hby at_109) rfl rfl ?_
        exact k
      refine WP.st bk111 ?_
      clear bk111
      obtain ⟨cq112, kq112, q112a, q112b, q112c⟩ := isOf hZ e110 E_b92
      obtain ⟨_, _, ⟨T112, L112, k112, n112⟩, -, X112, ⟨Lc112, hQ112, l112, y112, z112⟩, st112⟩ := X110.virtualBack hx (y := (⟨"com/example/skope/skope/xml/Intake", "dropsNames", "()Z"⟩ : MethodName)) (z := (⟨"com/example/skope/skope/xml/Intake", "dropsNames", "()Z"⟩ : MethodName)) hown (mvT hZ (hw _ (List.mem_of_getElem? (i := 14) rfl))) (mvT hZ (hw _ (List.mem_of_getElem? (i := 15) rfl))) (notFace_of_selects (args := #[]) (mvT hZ (hw _ (List.mem_of_getElem? (i := 17) rfl)))) (mvT hZ (hw _ (List.mem_of_getElem? (i := 17) rfl))) (mvT hZ (hw _ (List.mem_of_getElem? (i := 16) rfl))) (by decide) (backOf (W := 0) (rm3 l Z a0 hw [] b92 (1 : Int32) h110 n0 Z0 F_b92_dropsNames) hZ (hw _ (List.mem_of_getElem? (i := 18) rfl)) (hw _ (List.mem_of_getElem? (i := 2) rfl)) (by decide) (by decide)) q112a q112c (g := (mkF m 111 #[.val (.int p1), .val (.int p2), .val (.long q1), .second, .val (.long q2), .second, .val (.int (0 : Int32)), .val (.int (1 : Int32)), .val (.ref b92), .val (.int (1 : Int32)), .val (.int (1 : Int32)), .val (.int (1 : Int32)), .unset, .unset] [(.ref b92)])) rfl (by rw [hml]; rfl) (Steps.refl _) (argsL := []) (rest := []) (lenOf pd_2 rfl) rfl (by show 2 * 0 + _ ≤ _; exact Nat.le_of_eq rfl) (hb hby at_111) (fun _ _ => ⟨rfl, e110, (by decide : 2 + 0 ≤ _), (by decide : 15 + 0 ≤ _)⟩)
      dsimp only [Pt.U, Pt.locs, Pt.cells, Pt.slots] at X112 l112 y112 z112 st112 hQ112
      subst l112 y112 z112
      obtain ⟨rfl, Nq112, Kq112⟩ := hQ112
      replace NF := Fr.app NF Nq112
      clear Nq112
      refine WP.tr st112 ?_
      clear st112
      replace Kq112 := Kq112.trans (rfl : h110 = h110)
      show WP p.tables e below _ T112 (mkF m 114 #[.val (.int p1), .val (.int p2), .val (.long q1), .second, .val (.long q2), .second, .val (.int (0 : Int32)), .val (.int (1 : Int32)), .val (.ref b92), .val (.int (1 : Int32)), .val (.int (1 : Int32)), .val (.int (1 : Int32)), .unset, .unset] [(.int (nar .boolean (1 : Int32)))])
      rw [show (nar .boolean (1 : Int32)) = (1 : Int32) from by decide]
      show WP p.tables e below _ T112 (mkF m 114 #[.val (.int p1), .val (.int p2), .val (.long q1), .second, .val (.long q2), .second, .val (.int (0 : Int32)), .val (.int (1 : Int32)), .val (.ref b92), .val (.int (1 : Int32)), .val (.int (1 : Int32)), .val (.int (1 : Int32)), .unset, .unset] [(.int (1 : Int32))])
      have bk113 : ∀ t, Steps p.tables e below (T112.setTop (mkF m 128 #[.val (.int p1), .val (.int p2), .val (.long q1), .second, .val (.long q2), .second, .val (.int (0 : Int32)), .val (.int (1 : Int32)), .val (.ref b92), .val (.int (1 : Int32)), .val (.int (1 : Int32)), .val (.int (1 : Int32)), .val (.int (1 : Int32)), .unset] [(.ref b92)])) t → Steps p.tables e below (T112.setTop (mkF m 114 #[.val (.int p1), .val (.int p2), .val (.long q1), .second, .val (.long q2), .second, .val (.int (0 : Int32)), .val (.int (1 : Int32)), .val (.ref b92), .val (.int (1 : Int32)), .val (.int (1 : Int32)), .val (.int (1 : Int32)), .unset, .unset] [(.int (1 : Int32))])) t := fun t k => by
        refine XS.iload X112.here hx rfl (hb hby at_114) rfl ?_
        show Steps p.tables e below (T112.setTop (mkF m 116 #[.val (.int p1), .val (.int p2), .val (.long q1), .second, .val (.long q2), .second, .val (.int (0 : Int32)), .val (.int (1 : Int32)), .val (.ref b92), .val (.int (1 : Int32)), .val (.int (1 : Int32)), .val (.int (1 : Int32)), .unset, .unset] [(.int (1 : Int32)), (.int (1 : Int32))])) t
        refine XS.icmpNo X112.here hx rfl (hb hby at_116) rfl (teq (by decide : (1 : Int32) = (1 : Int32))).2 ?_
        show Steps p.tables e below (T112.setTop (mkF m 119 #[.val (.int p1), .val (.int p2), .val (.long q1), .second, .val (.long q2), .second, .val (.int (0 : Int32)), .val (.int (1 : Int32)), .val (.ref b92), .val (.int (1 : Int32)), .val (.int (1 : Int32)), .val (.int (1 : Int32)), .unset, .unset] [])) t
        refine XS.iconst X112.here hx rfl (hb hby at_119) ?_
        show Steps p.tables e below (T112.setTop (mkF m 120 #[.val (.int p1), .val (.int p2), .val (.long q1), .second, .val (.long q2), .second, .val (.int (0 : Int32)), .val (.int (1 : Int32)), .val (.ref b92), .val (.int (1 : Int32)), .val (.int (1 : Int32)), .val (.int (1 : Int32)), .unset, .unset] [(.int (1 : Int32))])) t
        refine XS.goto X112.here hx rfl (pc0 := 120) (pc' := 124) rfl (hb hby at_120) (by decide) (by decide) ?_
        show Steps p.tables e below (T112.setTop (mkF m 124 #[.val (.int p1), .val (.int p2), .val (.long q1), .second, .val (.long q2), .second, .val (.int (0 : Int32)), .val (.int (1 : Int32)), .val (.ref b92), .val (.int (1 : Int32)), .val (.int (1 : Int32)), .val (.int (1 : Int32)), .unset, .unset] [(.int (1 : Int32))])) t
        refine XS.istore X112.here hx rfl (hb hby at_124) rfl (l' := #[.val (.int p1), .val (.int p2), .val (.long q1), .second, .val (.long q2), .second, .val (.int (0 : Int32)), .val (.int (1 : Int32)), .val (.ref b92), .val (.int (1 : Int32)), .val (.int (1 : Int32)), .val (.int (1 : Int32)), .val (.int (1 : Int32)), .unset]) rfl ?_
        show Steps p.tables e below (T112.setTop (mkF m 126 #[.val (.int p1), .val (.int p2), .val (.long q1), .second, .val (.long q2), .second, .val (.int (0 : Int32)), .val (.int (1 : Int32)), .val (.ref b92), .val (.int (1 : Int32)), .val (.int (1 : Int32)), .val (.int (1 : Int32)), .val (.int (1 : Int32)), .unset] [])) t
        refine XS.aload X112.here hx rfl (hb hby at_126) rfl rfl ?_
        exact k
      refine WP.st bk113 ?_
      clear bk113
      obtain ⟨cq114, kq114, q114a, q114b, q114c⟩ := isOf hZ Kq112 E_b92
      obtain ⟨_, _, ⟨T114, L114, k114, n114⟩, -, X114, ⟨Lc114, hQ114, l114, y114, z114⟩, st114⟩ := X112.virtualBack hx (y := (⟨"com/example/skope/skope/xml/Intake", "declaringBytes", "()J"⟩ : MethodName)) (z := (⟨"com/example/skope/skope/xml/Intake", "declaringBytes", "()J"⟩ : MethodName)) hown (mvT hZ (hw _ (List.mem_of_getElem? (i := 63) rfl))) (mvT hZ (hw _ (List.mem_of_getElem? (i := 64) rfl))) (notFace_of_selects (args := #[]) (mvT hZ (hw _ (List.mem_of_getElem? (i := 66) rfl)))) (mvT hZ (hw _ (List.mem_of_getElem? (i := 66) rfl))) (mvT hZ (hw _ (List.mem_of_getElem? (i := 65) rfl))) (by decide) (backOf (W := 0) (rm9 l Z a0 hw [] b92 (if (1 : Int32) = 0 then (if (0 : Int32) = 0 then (0 : Int64) else 0) else 0) h110 n0 Z0 F_b92_declaringBytes) hZ (hw _ (List.mem_of_getElem? (i := 67) rfl)) (hw _ (List.mem_of_getElem? (i := 2) rfl)) (by decide) (by decide)) q114a q114c (g := (mkF m 128 #[.val (.int p1), .val (.int p2), .val (.long q1), .second, .val (.long q2), .second, .val (.int (0 : Int32)), .val (.int (1 : Int32)), .val (.ref b92), .val (.int (1 : Int32)), .val (.int (1 : Int32)), .val (.int (1 : Int32)), .val (.int (1 : Int32)), .unset] [(.ref b92)])) rfl (by rw [hml]; rfl) (Steps.refl _) (argsL := []) (rest := []) (lenOf pd_6 rfl) rfl (by show 2 * 0 + _ ≤ _; exact Nat.le_of_eq rfl) (hb hby at_128) (fun _ _ => ⟨rfl, Kq112, (by decide : 2 + 0 ≤ _), (by decide : 15 + 0 ≤ _)⟩)
      dsimp only [Pt.U, Pt.locs, Pt.cells, Pt.slots] at X114 l114 y114 z114 st114 hQ114
      subst l114 y114 z114
      obtain ⟨rfl, Nq114, Kq114⟩ := hQ114
      replace NF := Fr.app NF Nq114
      clear Nq114
      refine WP.tr st114 ?_
      clear st114
      replace Kq114 := Kq114.trans (rfl : h110 = h110)
      show WP p.tables e below _ T114 (mkF m 131 #[.val (.int p1), .val (.int p2), .val (.long q1), .second, .val (.long q2), .second, .val (.int (0 : Int32)), .val (.int (1 : Int32)), .val (.ref b92), .val (.int (1 : Int32)), .val (.int (1 : Int32)), .val (.int (1 : Int32)), .val (.int (1 : Int32)), .unset] [(.long (if (1 : Int32) = 0 then (if (0 : Int32) = 0 then (0 : Int64) else 0) else 0))])
      have bk115 : ∀ t, Steps p.tables e below (T114.setTop (mkF m 138 #[.val (.int p1), .val (.int p2), .val (.long q1), .second, .val (.long q2), .second, .val (.int (0 : Int32)), .val (.int (1 : Int32)), .val (.ref b92), .val (.int (1 : Int32)), .val (.int (1 : Int32)), .val (.int (1 : Int32)), .val (.int (1 : Int32)), .unset] [(.ref b92)])) t → Steps p.tables e below (T114.setTop (mkF m 131 #[.val (.int p1), .val (.int p2), .val (.long q1), .second, .val (.long q2), .second, .val (.int (0 : Int32)), .val (.int (1 : Int32)), .val (.ref b92), .val (.int (1 : Int32)), .val (.int (1 : Int32)), .val (.int (1 : Int32)), .val (.int (1 : Int32)), .unset] [(.long (if (1 : Int32) = 0 then (if (0 : Int32) = 0 then (0 : Int64) else 0) else 0))])) t := fun t k => by
        refine XS.lconst X114.here hx rfl (hb hby at_131) ?_
        show Steps p.tables e below (T114.setTop (mkF m 132 #[.val (.int p1), .val (.int p2), .val (.long q1), .second, .val (.long q2), .second, .val (.int (0 : Int32)), .val (.int (1 : Int32)), .val (.ref b92), .val (.int (1 : Int32)), .val (.int (1 : Int32)), .val (.int (1 : Int32)), .val (.int (1 : Int32)), .unset] [(.long (0 : Int64)), (.long (if (1 : Int32) = 0 then (if (0 : Int32) = 0 then (0 : Int64) else 0) else 0))])) t
        refine XS.lcmp X114.here hx rfl (hb hby at_132) rfl ?_
        show Steps p.tables e below (T114.setTop (mkF m 133 #[.val (.int p1), .val (.int p2), .val (.long q1), .second, .val (.long q2), .second, .val (.int (0 : Int32)), .val (.int (1 : Int32)), .val (.ref b92), .val (.int (1 : Int32)), .val (.int (1 : Int32)), .val (.int (1 : Int32)), .val (.int (1 : Int32)), .unset] [(.int (lcmpW (if (1 : Int32) = 0 then (if (0 : Int32) = 0 then (0 : Int64) else 0) else 0) (0 : Int64)))])) t
        refine XS.ifNo X114.here hx rfl (hb hby at_133) rfl ((if0 _ _).trans (teq (by decide)).2) ?_
        show Steps p.tables e below (T114.setTop (mkF m 136 #[.val (.int p1), .val (.int p2), .val (.long q1), .second, .val (.long q2), .second, .val (.int (0 : Int32)), .val (.int (1 : Int32)), .val (.ref b92), .val (.int (1 : Int32)), .val (.int (1 : Int32)), .val (.int (1 : Int32)), .val (.int (1 : Int32)), .unset] [])) t
        refine XS.aload X114.here hx rfl (hb hby at_136) rfl rfl ?_
        exact k
      refine WP.st bk115 ?_
      clear bk115
      obtain ⟨cq116, kq116, q116a, q116b, q116c⟩ := isOf hZ Kq114 E_b92
      obtain ⟨_, _, ⟨T116, L116, k116, n116⟩, -, X116, ⟨Lc116, hQ116, l116, y116, z116⟩, st116⟩ := X114.virtualBack hx (y := (⟨"com/example/skope/skope/xml/Intake", "nesting", "()I"⟩ : MethodName)) (z := (⟨"com/example/skope/skope/xml/Intake", "nesting", "()I"⟩ : MethodName)) hown (mvT hZ (hw _ (List.mem_of_getElem? (i := 70) rfl))) (mvT hZ (hw _ (List.mem_of_getElem? (i := 71) rfl))) (notFace_of_selects (args := #[]) (mvT hZ (hw _ (List.mem_of_getElem? (i := 73) rfl)))) (mvT hZ (hw _ (List.mem_of_getElem? (i := 73) rfl))) (mvT hZ (hw _ (List.mem_of_getElem? (i := 72) rfl))) (by decide) (backOf (W := 0) (rm10 l Z a0 hw [] b92 (own_max (0 : Int32) p2) h110 n0 Z0 F_b92_nesting) hZ (hw _ (List.mem_of_getElem? (i := 74) rfl)) (hw _ (List.mem_of_getElem? (i := 2) rfl)) (by decide) (by decide)) q116a q116c (g := (mkF m 138 #[.val (.int p1), .val (.int p2), .val (.long q1), .second, .val (.long q2), .second, .val (.int (0 : Int32)), .val (.int (1 : Int32)), .val (.ref b92), .val (.int (1 : Int32)), .val (.int (1 : Int32)), .val (.int (1 : Int32)), .val (.int (1 : Int32)), .unset] [(.ref b92)])) rfl (by rw [hml]; rfl) (Steps.refl _) (argsL := []) (rest := []) (lenOf pd_7 rfl) rfl (by show 2 * 0 + _ ≤ _; exact Nat.le_of_eq rfl) (hb hby at_138) (fun _ _ => ⟨rfl, Kq114, (by decide : 2 + 0 ≤ _), (by decide : 15 + 0 ≤ _)⟩)
      dsimp only [Pt.U, Pt.locs, Pt.cells, Pt.slots] at X116 l116 y116 z116 st116 hQ116
      subst l116 y116 z116
      obtain ⟨rfl, Nq116, Kq116⟩ := hQ116
      replace NF := Fr.app NF Nq116
      clear Nq116
      refine WP.tr st116 ?_
      clear st116
      replace Kq116 := Kq116.trans (rfl : h110 = h110)
      show WP p.tables e below _ T116 (mkF m 141 #[.val (.int p1), .val (.int p2), .val (.long q1), .second, .val (.long q2), .second, .val (.int (0 : Int32)), .val (.int (1 : Int32)), .val (.ref b92), .val (.int (1 : Int32)), .val (.int (1 : Int32)), .val (.int (1 : Int32)), .val (.int (1 : Int32)), .unset] [(.int (own_max (0 : Int32) p2))])
      have bk117 : ∀ t, Steps p.tables e below (T116.setTop (mkF m 143 #[.val (.int p1), .val (.int p2), .val (.long q1), .second, .val (.long q2), .second, .val (.int (0 : Int32)), .val (.int (1 : Int32)), .val (.ref b92), .val (.int (1 : Int32)), .val (.int (1 : Int32)), .val (.int (1 : Int32)), .val (.int (1 : Int32)), .unset] [(.int p2), (.int (0 : Int32)), (.int (own_max (0 : Int32) p2))])) t → Steps p.tables e below (T116.setTop (mkF m 141 #[.val (.int p1), .val (.int p2), .val (.long q1), .second, .val (.long q2), .second, .val (.int (0 : Int32)), .val (.int (1 : Int32)), .val (.ref b92), .val (.int (1 : Int32)), .val (.int (1 : Int32)), .val (.int (1 : Int32)), .val (.int (1 : Int32)), .unset] [(.int (own_max (0 : Int32) p2))])) t := fun t k => by
        refine XS.iconst X116.here hx rfl (hb hby at_141) ?_
        show Steps p.tables e below (T116.setTop (mkF m 142 #[.val (.int p1), .val (.int p2), .val (.long q1), .second, .val (.long q2), .second, .val (.int (0 : Int32)), .val (.int (1 : Int32)), .val (.ref b92), .val (.int (1 : Int32)), .val (.int (1 : Int32)), .val (.int (1 : Int32)), .val (.int (1 : Int32)), .unset] [(.int (0 : Int32)), (.int (own_max (0 : Int32) p2))])) t
        refine XS.iloadN X116.here hx rfl (hb hby at_142) rfl ?_
        exact k
      refine WP.st bk117 ?_
      clear bk117
      obtain ⟨_, _, ⟨T118, L118, k118, n118⟩, -, X118, ⟨Lc118, hQ118, l118, y118, z118⟩, st118⟩ := Jvm.LawKit.callS X116 hx (y := (⟨"java/lang/Math", "max", "(II)I"⟩ : MethodName)) hown (mvT hZ (hw _ (List.mem_of_getElem? (i := 75) rfl))) (mvT hZ (hw _ (List.mem_of_getElem? (i := 27) rfl))) (mvT hZ (hw _ (List.mem_of_getElem? (i := 28) rfl))) (mvT hZ (hw _ (List.mem_of_getElem? (i := 29) rfl))) (by decide) (backOf (W := 1) (rm5 l Z a0 hw [] (0 : Int32) p2 h110 n0 Z0 ) hZ (hw _ (List.mem_of_getElem? (i := 29) rfl)) (hw _ (List.mem_of_getElem? (i := 28) rfl)) (by decide) (by decide)) (g := (mkF m 143 #[.val (.int p1), .val (.int p2), .val (.long q1), .second, .val (.long q2), .second, .val (.int (0 : Int32)), .val (.int (1 : Int32)), .val (.ref b92), .val (.int (1 : Int32)), .val (.int (1 : Int32)), .val (.int (1 : Int32)), .val (.int (1 : Int32)), .unset] [(.int p2), (.int (0 : Int32)), (.int (own_max (0 : Int32) p2))])) rfl (by rw [hml]; rfl) (argsL := [(.int (0 : Int32)), (.int p2)]) (rest := [(.int (own_max (0 : Int32) p2))]) (lenOf pd_0 rfl) rfl (by show 2 * 0 + _ ≤ _; exact Nat.le_of_eq rfl) (hb hby at_143) (fun _ _ => ⟨rfl, Kq116, (by decide : 2 + 0 ≤ _), (by decide : 15 + 0 ≤ _)⟩)
      dsimp only [Pt.U, Pt.locs, Pt.cells, Pt.slots] at X118 l118 y118 z118 st118 hQ118
      subst l118 y118 z118
      obtain ⟨rfl, Nq118, Kq118⟩ := hQ118
      replace NF := Fr.app NF Nq118
      clear Nq118
      refine WP.st st118 ?_
      clear st118
      replace Kq118 := Kq118.trans (rfl : h110 = h110)
      show WP p.tables e below _ T118 (mkF m 146 #[.val (.int p1), .val (.int p2), .val (.long q1), .second, .val (.long q2), .second, .val (.int (0 : Int32)), .val (.int (1 : Int32)), .val (.ref b92), .val (.int (1 : Int32)), .val (.int (1 : Int32)), .val (.int (1 : Int32)), .val (.int (1 : Int32)), .unset] [(.int (own_max (0 : Int32) p2)), (.int (own_max (0 : Int32) p2))])
      have bk119 : ∀ t, Steps p.tables e below (T118.setTop (mkF m 151 #[.val (.int p1), .val (.int p2), .val (.long q1), .second, .val (.long q2), .second, .val (.int (0 : Int32)), .val (.int (1 : Int32)), .val (.ref b92), .val (.int (1 : Int32)), .val (.int (1 : Int32)), .val (.int (1 : Int32)), .val (.int (1 : Int32)), .unset] [(.ref b92)])) t → Steps p.tables e below (T118.setTop (mkF m 146 #[.val (.int p1), .val (.int p2), .val (.long q1), .second, .val (.long q2), .second, .val (.int (0 : Int32)), .val (.int (1 : Int32)), .val (.ref b92), .val (.int (1 : Int32)), .val (.int (1 : Int32)), .val (.int (1 : Int32)), .val (.int (1 : Int32)), .unset] [(.int (own_max (0 : Int32) p2)), (.int (own_max (0 : Int32) p2))])) t := fun t k => by
        refine XS.icmpNo X118.here hx rfl (hb hby at_146) rfl (teq (rfl : (own_max (0 : Int32) p2) = (own_max (0 : Int32) p2))).2 ?_
        show Steps p.tables e below (T118.setTop (mkF m 149 #[.val (.int p1), .val (.int p2), .val (.long q1), .second, .val (.long q2), .second, .val (.int (0 : Int32)), .val (.int (1 : Int32)), .val (.ref b92), .val (.int (1 : Int32)), .val (.int (1 : Int32)), .val (.int (1 : Int32)), .val (.int (1 : Int32)), .unset] [])) t
        refine XS.aload X118.here hx rfl (hb hby at_149) rfl rfl ?_
        exact k
      refine WP.st bk119 ?_
      clear bk119
      obtain ⟨cq120, kq120, q120a, q120b, q120c⟩ := isOf hZ Kq118 E_b92
      obtain ⟨_, _, ⟨T120, L120, k120, n120⟩, -, X120, ⟨Lc120, hQ120, l120, y120, z120⟩, st120⟩ := X118.virtualBack hx (y := (⟨"com/example/skope/skope/xml/Intake", "passedOnDeclarations", "()J"⟩ : MethodName)) (z := (⟨"com/example/skope/skope/xml/Intake", "passedOnDeclarations", "()J"⟩ : MethodName)) hown (mvT hZ (hw _ (List.mem_of_getElem? (i := 76) rfl))) (mvT hZ (hw _ (List.mem_of_getElem? (i := 77) rfl))) (notFace_of_selects (args := #[]) (mvT hZ (hw _ (List.mem_of_getElem? (i := 79) rfl)))) (mvT hZ (hw _ (List.mem_of_getElem? (i := 79) rfl))) (mvT hZ (hw _ (List.mem_of_getElem? (i := 78) rfl))) (by decide) (backOf (W := 0) (rm11 l Z a0 hw [] b92 q1 h110 n0 Z0 F_b92_passedOnDeclarations) hZ (hw _ (List.mem_of_getElem? (i := 80) rfl)) (hw _ (List.mem_of_getElem? (i := 2) rfl)) (by decide) (by decide)) q120a q120c (g := (mkF m 151 #[.val (.int p1), .val (.int p2), .val (.long q1), .second, .val (.long q2), .second, .val (.int (0 : Int32)), .val (.int (1 : Int32)), .val (.ref b92), .val (.int (1 : Int32)), .val (.int (1 : Int32)), .val (.int (1 : Int32)), .val (.int (1 : Int32)), .unset] [(.ref b92)])) rfl (by rw [hml]; rfl) (Steps.refl _) (argsL := []) (rest := []) (lenOf pd_6 rfl) rfl (by show 2 * 0 + _ ≤ _; exact Nat.le_of_eq rfl) (hb hby at_151) (fun _ _ => ⟨rfl, Kq118, (by decide : 2 + 0 ≤ _), (by decide : 15 + 0 ≤ _)⟩)
      dsimp only [Pt.U, Pt.locs, Pt.cells, Pt.slots] at X120 l120 y120 z120 st120 hQ120
      subst l120 y120 z120
      obtain ⟨rfl, Nq120, Kq120⟩ := hQ120
      replace NF := Fr.app NF Nq120
      clear Nq120
      refine WP.tr st120 ?_
      clear st120
      replace Kq120 := Kq120.trans (rfl : h110 = h110)
      show WP p.tables e below _ T120 (mkF m 154 #[.val (.int p1), .val (.int p2), .val (.long q1), .second, .val (.long q2), .second, .val (.int (0 : Int32)), .val (.int (1 : Int32)), .val (.ref b92), .val (.int (1 : Int32)), .val (.int (1 : Int32)), .val (.int (1 : Int32)), .val (.int (1 : Int32)), .unset] [(.long q1)])
      have bk121 : ∀ t, Steps p.tables e below (T120.setTop (mkF m 161 #[.val (.int p1), .val (.int p2), .val (.long q1), .second, .val (.long q2), .second, .val (.int (0 : Int32)), .val (.int (1 : Int32)), .val (.ref b92), .val (.int (1 : Int32)), .val (.int (1 : Int32)), .val (.int (1 : Int32)), .val (.int (1 : Int32)), .unset] [(.ref b92)])) t → Steps p.tables e below (T120.setTop (mkF m 154 #[.val (.int p1), .val (.int p2), .val (.long q1), .second, .val (.long q2), .second, .val (.int (0 : Int32)), .val (.int (1 : Int32)), .val (.ref b92), .val (.int (1 : Int32)), .val (.int (1 : Int32)), .val (.int (1 : Int32)), .val (.int (1 : Int32)), .unset] [(.long q1)])) t := fun t k => by
        refine XS.lloadN X120.here hx rfl (hb hby at_154) rfl ?_
        show Steps p.tables e below (T120.setTop (mkF m 155 #[.val (.int p1), .val (.int p2), .val (.long q1), .second, .val (.long q2), .second, .val (.int (0 : Int32)), .val (.int (1 : Int32)), .val (.ref b92), .val (.int (1 : Int32)), .val (.int (1 : Int32)), .val (.int (1 : Int32)), .val (.int (1 : Int32)), .unset] [(.long q1), (.long q1)])) t
        refine XS.lcmp X120.here hx rfl (hb hby at_155) rfl ?_
        show Steps p.tables e below (T120.setTop (mkF m 156 #[.val (.int p1), .val (.int p2), .val (.long q1), .second, .val (.long q2), .second, .val (.int (0 : Int32)), .val (.int (1 : Int32)), .val (.ref b92), .val (.int (1 : Int32)), .val (.int (1 : Int32)), .val (.int (1 : Int32)), .val (.int (1 : Int32)), .unset] [(.int (lcmpW q1 q1))])) t
        refine XS.ifNo X120.here hx rfl (hb hby at_156) rfl ((if0 _ _).trans (teq ((lw_eq _ _).2 rfl)).2) ?_
        show Steps p.tables e below (T120.setTop (mkF m 159 #[.val (.int p1), .val (.int p2), .val (.long q1), .second, .val (.long q2), .second, .val (.int (0 : Int32)), .val (.int (1 : Int32)), .val (.ref b92), .val (.int (1 : Int32)), .val (.int (1 : Int32)), .val (.int (1 : Int32)), .val (.int (1 : Int32)), .unset] [])) t
        refine XS.aload X120.here hx rfl (hb hby at_159) rfl rfl ?_
        exact k
      refine WP.st bk121 ?_
      clear bk121
      obtain ⟨cq122, kq122, q122a, q122b, q122c⟩ := isOf hZ Kq120 E_b92
      obtain ⟨_, _, ⟨T122, L122, k122, n122⟩, -, X122, ⟨Lc122, hQ122, l122, y122, z122⟩, st122⟩ := X120.virtualBack hx (y := (⟨"com/example/skope/skope/xml/Intake", "passedOnChars", "()J"⟩ : MethodName)) (z := (⟨"com/example/skope/skope/xml/Intake", "passedOnChars", "()J"⟩ : MethodName)) hown (mvT hZ (hw _ (List.mem_of_getElem? (i := 81) rfl))) (mvT hZ (hw _ (List.mem_of_getElem? (i := 82) rfl))) (notFace_of_selects (args := #[]) (mvT hZ (hw _ (List.mem_of_getElem? (i := 84) rfl)))) (mvT hZ (hw _ (List.mem_of_getElem? (i := 84) rfl))) (mvT hZ (hw _ (List.mem_of_getElem? (i := 83) rfl))) (by decide) (backOf (W := 0) (rm12 l Z a0 hw [] b92 q2 h110 n0 Z0 F_b92_passedOnChars) hZ (hw _ (List.mem_of_getElem? (i := 85) rfl)) (hw _ (List.mem_of_getElem? (i := 2) rfl)) (by decide) (by decide)) q122a q122c (g := (mkF m 161 #[.val (.int p1), .val (.int p2), .val (.long q1), .second, .val (.long q2), .second, .val (.int (0 : Int32)), .val (.int (1 : Int32)), .val (.ref b92), .val (.int (1 : Int32)), .val (.int (1 : Int32)), .val (.int (1 : Int32)), .val (.int (1 : Int32)), .unset] [(.ref b92)])) rfl (by rw [hml]; rfl) (Steps.refl _) (argsL := []) (rest := []) (lenOf pd_6 rfl) rfl (by show 2 * 0 + _ ≤ _; exact Nat.le_of_eq rfl) (hb hby at_161) (fun _ _ => ⟨rfl, Kq120, (by decide : 2 + 0 ≤ _), (by decide : 15 + 0 ≤ _)⟩)
      dsimp only [Pt.U, Pt.locs, Pt.cells, Pt.slots] at X122 l122 y122 z122 st122 hQ122
      subst l122 y122 z122
      obtain ⟨rfl, Nq122, Kq122⟩ := hQ122
      replace NF := Fr.app NF Nq122
      clear Nq122
      refine WP.tr st122 ?_
      clear st122
      replace Kq122 := Kq122.trans (rfl : h110 = h110)
      show WP p.tables e below _ T122 (mkF m 164 #[.val (.int p1), .val (.int p2), .val (.long q1), .second, .val (.long q2), .second, .val (.int (0 : Int32)), .val (.int (1 : Int32)), .val (.ref b92), .val (.int (1 : Int32)), .val (.int (1 : Int32)), .val (.int (1 : Int32)), .val (.int (1 : Int32)), .unset] [(.long q2)])
      have bk123 : ∀ t, Steps p.tables e below (T122.setTop (mkF m 207 #[.val (.int p1), .val (.int p2), .val (.long q1), .second, .val (.long q2), .second, .val (.int (0 : Int32)), .val (.int (1 : Int32)), .val (.ref b92), .val (.int (1 : Int32)), .val (.int (1 : Int32)), .val (.int (1 : Int32)), .val (.int (1 : Int32)), .val (.int (1 : Int32))] [(.int (1 : Int32))])) t → Steps p.tables e below (T122.setTop (mkF m 164 #[.val (.int p1), .val (.int p2), .val (.long q1), .second, .val (.long q2), .second, .val (.int (0 : Int32)), .val (.int (1 : Int32)), .val (.ref b92), .val (.int (1 : Int32)), .val (.int (1 : Int32)), .val (.int (1 : Int32)), .val (.int (1 : Int32)), .unset] [(.long q2)])) t := fun t k => by
        refine XS.lload X122.here hx rfl (hb hby at_164) rfl ?_
        show Steps p.tables e below (T122.setTop (mkF m 166 #[.val (.int p1), .val (.int p2), .val (.long q1), .second, .val (.long q2), .second, .val (.int (0 : Int32)), .val (.int (1 : Int32)), .val (.ref b92), .val (.int (1 : Int32)), .val (.int (1 : Int32)), .val (.int (1 : Int32)), .val (.int (1 : Int32)), .unset] [(.long q2), (.long q2)])) t
        refine XS.lcmp X122.here hx rfl (hb hby at_166) rfl ?_
        show Steps p.tables e below (T122.setTop (mkF m 167 #[.val (.int p1), .val (.int p2), .val (.long q1), .second, .val (.long q2), .second, .val (.int (0 : Int32)), .val (.int (1 : Int32)), .val (.ref b92), .val (.int (1 : Int32)), .val (.int (1 : Int32)), .val (.int (1 : Int32)), .val (.int (1 : Int32)), .unset] [(.int (lcmpW q2 q2))])) t
        refine XS.ifNo X122.here hx rfl (hb hby at_167) rfl ((if0 _ _).trans (teq ((lw_eq _ _).2 rfl)).2) ?_
        show Steps p.tables e below (T122.setTop (mkF m 170 #[.val (.int p1), .val (.int p2), .val (.long q1), .second, .val (.long q2), .second, .val (.int (0 : Int32)), .val (.int (1 : Int32)), .val (.ref b92), .val (.int (1 : Int32)), .val (.int (1 : Int32)), .val (.int (1 : Int32)), .val (.int (1 : Int32)), .unset] [])) t
        refine XS.iconst X122.here hx rfl (hb hby at_170) ?_
        show Steps p.tables e below (T122.setTop (mkF m 171 #[.val (.int p1), .val (.int p2), .val (.long q1), .second, .val (.long q2), .second, .val (.int (0 : Int32)), .val (.int (1 : Int32)), .val (.ref b92), .val (.int (1 : Int32)), .val (.int (1 : Int32)), .val (.int (1 : Int32)), .val (.int (1 : Int32)), .unset] [(.int (1 : Int32))])) t
        refine XS.goto X122.here hx rfl (pc0 := 171) (pc' := 175) rfl (hb hby at_171) (by decide) (by decide) ?_
        show Steps p.tables e below (T122.setTop (mkF m 175 #[.val (.int p1), .val (.int p2), .val (.long q1), .second, .val (.long q2), .second, .val (.int (0 : Int32)), .val (.int (1 : Int32)), .val (.ref b92), .val (.int (1 : Int32)), .val (.int (1 : Int32)), .val (.int (1 : Int32)), .val (.int (1 : Int32)), .unset] [(.int (1 : Int32))])) t
        refine XS.istore X122.here hx rfl (hb hby at_175) rfl (l' := #[.val (.int p1), .val (.int p2), .val (.long q1), .second, .val (.long q2), .second, .val (.int (0 : Int32)), .val (.int (1 : Int32)), .val (.ref b92), .val (.int (1 : Int32)), .val (.int (1 : Int32)), .val (.int (1 : Int32)), .val (.int (1 : Int32)), .val (.int (1 : Int32))]) rfl ?_
        show Steps p.tables e below (T122.setTop (mkF m 177 #[.val (.int p1), .val (.int p2), .val (.long q1), .second, .val (.long q2), .second, .val (.int (0 : Int32)), .val (.int (1 : Int32)), .val (.ref b92), .val (.int (1 : Int32)), .val (.int (1 : Int32)), .val (.int (1 : Int32)), .val (.int (1 : Int32)), .val (.int (1 : Int32))] [])) t
        refine XS.iload X122.here hx rfl (hb hby at_177) rfl ?_
        show Steps p.tables e below (T122.setTop (mkF m 179 #[.val (.int p1), .val (.int p2), .val (.long q1), .second, .val (.long q2), .second, .val (.int (0 : Int32)), .val (.int (1 : Int32)), .val (.ref b92), .val (.int (1 : Int32)), .val (.int (1 : Int32)), .val (.int (1 : Int32)), .val (.int (1 : Int32)), .val (.int (1 : Int32))] [(.int (1 : Int32))])) t
        refine XS.ifNo X122.here hx rfl (hb hby at_179) rfl ((if0 _ _).trans (feq (by decide : ¬ ((1 : Int32) = (0 : Int32)))).1) ?_
        show Steps p.tables e below (T122.setTop (mkF m 182 #[.val (.int p1), .val (.int p2), .val (.long q1), .second, .val (.long q2), .second, .val (.int (0 : Int32)), .val (.int (1 : Int32)), .val (.ref b92), .val (.int (1 : Int32)), .val (.int (1 : Int32)), .val (.int (1 : Int32)), .val (.int (1 : Int32)), .val (.int (1 : Int32))] [])) t
        refine XS.iload X122.here hx rfl (hb hby at_182) rfl ?_
        show Steps p.tables e below (T122.setTop (mkF m 184 #[.val (.int p1), .val (.int p2), .val (.long q1), .second, .val (.long q2), .second, .val (.int (0 : Int32)), .val (.int (1 : Int32)), .val (.ref b92), .val (.int (1 : Int32)), .val (.int (1 : Int32)), .val (.int (1 : Int32)), .val (.int (1 : Int32)), .val (.int (1 : Int32))] [(.int (1 : Int32))])) t
        refine XS.ifNo X122.here hx rfl (hb hby at_184) rfl ((if0 _ _).trans (feq (by decide : ¬ ((1 : Int32) = (0 : Int32)))).1) ?_
        show Steps p.tables e below (T122.setTop (mkF m 187 #[.val (.int p1), .val (.int p2), .val (.long q1), .second, .val (.long q2), .second, .val (.int (0 : Int32)), .val (.int (1 : Int32)), .val (.ref b92), .val (.int (1 : Int32)), .val (.int (1 : Int32)), .val (.int (1 : Int32)), .val (.int (1 : Int32)), .val (.int (1 : Int32))] [])) t
        refine XS.iload X122.here hx rfl (hb hby at_187) rfl ?_
        show Steps p.tables e below (T122.setTop (mkF m 189 #[.val (.int p1), .val (.int p2), .val (.long q1), .second, .val (.long q2), .second, .val (.int (0 : Int32)), .val (.int (1 : Int32)), .val (.ref b92), .val (.int (1 : Int32)), .val (.int (1 : Int32)), .val (.int (1 : Int32)), .val (.int (1 : Int32)), .val (.int (1 : Int32))] [(.int (1 : Int32))])) t
        refine XS.ifNo X122.here hx rfl (hb hby at_189) rfl ((if0 _ _).trans (feq (by decide : ¬ ((1 : Int32) = (0 : Int32)))).1) ?_
        show Steps p.tables e below (T122.setTop (mkF m 192 #[.val (.int p1), .val (.int p2), .val (.long q1), .second, .val (.long q2), .second, .val (.int (0 : Int32)), .val (.int (1 : Int32)), .val (.ref b92), .val (.int (1 : Int32)), .val (.int (1 : Int32)), .val (.int (1 : Int32)), .val (.int (1 : Int32)), .val (.int (1 : Int32))] [])) t
        refine XS.iload X122.here hx rfl (hb hby at_192) rfl ?_
        show Steps p.tables e below (T122.setTop (mkF m 194 #[.val (.int p1), .val (.int p2), .val (.long q1), .second, .val (.long q2), .second, .val (.int (0 : Int32)), .val (.int (1 : Int32)), .val (.ref b92), .val (.int (1 : Int32)), .val (.int (1 : Int32)), .val (.int (1 : Int32)), .val (.int (1 : Int32)), .val (.int (1 : Int32))] [(.int (1 : Int32))])) t
        refine XS.ifNo X122.here hx rfl (hb hby at_194) rfl ((if0 _ _).trans (feq (by decide : ¬ ((1 : Int32) = (0 : Int32)))).1) ?_
        show Steps p.tables e below (T122.setTop (mkF m 197 #[.val (.int p1), .val (.int p2), .val (.long q1), .second, .val (.long q2), .second, .val (.int (0 : Int32)), .val (.int (1 : Int32)), .val (.ref b92), .val (.int (1 : Int32)), .val (.int (1 : Int32)), .val (.int (1 : Int32)), .val (.int (1 : Int32)), .val (.int (1 : Int32))] [])) t
        refine XS.iload X122.here hx rfl (hb hby at_197) rfl ?_
        show Steps p.tables e below (T122.setTop (mkF m 199 #[.val (.int p1), .val (.int p2), .val (.long q1), .second, .val (.long q2), .second, .val (.int (0 : Int32)), .val (.int (1 : Int32)), .val (.ref b92), .val (.int (1 : Int32)), .val (.int (1 : Int32)), .val (.int (1 : Int32)), .val (.int (1 : Int32)), .val (.int (1 : Int32))] [(.int (1 : Int32))])) t
        refine XS.ifNo X122.here hx rfl (hb hby at_199) rfl ((if0 _ _).trans (feq (by decide : ¬ ((1 : Int32) = (0 : Int32)))).1) ?_
        show Steps p.tables e below (T122.setTop (mkF m 202 #[.val (.int p1), .val (.int p2), .val (.long q1), .second, .val (.long q2), .second, .val (.int (0 : Int32)), .val (.int (1 : Int32)), .val (.ref b92), .val (.int (1 : Int32)), .val (.int (1 : Int32)), .val (.int (1 : Int32)), .val (.int (1 : Int32)), .val (.int (1 : Int32))] [])) t
        refine XS.iconst X122.here hx rfl (hb hby at_202) ?_
        show Steps p.tables e below (T122.setTop (mkF m 203 #[.val (.int p1), .val (.int p2), .val (.long q1), .second, .val (.long q2), .second, .val (.int (0 : Int32)), .val (.int (1 : Int32)), .val (.ref b92), .val (.int (1 : Int32)), .val (.int (1 : Int32)), .val (.int (1 : Int32)), .val (.int (1 : Int32)), .val (.int (1 : Int32))] [(.int (1 : Int32))])) t
        refine XS.goto X122.here hx rfl (pc0 := 203) (pc' := 207) rfl (hb hby at_203) (by decide) (by decide) ?_
        exact k
      refine WP.st bk123 ?_
      clear bk123
      subst hG
      obtain ⟨fs, hr, hrun, hended, hW, hsame⟩ := X122.leave (v := some (.int (1 : Int32))) (fun h => by rw [Bd.returns] at h; cases h)
      refine WP.fin ⟨_, _, ?_, hrun, hended, _, _, rfl, ?_, ⟨_, rfl⟩, hW, hsame.mono (by decide) (by decide)⟩
      · exact retN X122 hx (t := .boolean) Bd.returns (by simp) (hb hby at_207) hr
      · show Q0 Z p1 p2 q1 q2 h0 n0 _ T122.heap _
        rw [Kq122]
        exact ⟨rfl, NF⟩
  · skip
    have bk125 : ∀ t, Steps p.tables e below (s₁.setTop (mkF m 16 #[.val (.int p1), .val (.int p2), .val (.long q1), .second, .val (.long q2), .second, .val (.int (1 : Int32)), .unset, .unset, .unset, .unset, .unset, .unset, .unset] [(.int (p1 &&& (2 : Int32)))])) t → Steps p.tables e below (s₁.setTop (mkF m 3 #[.val (.int p1), .val (.int p2), .val (.long q1), .second, .val (.long q2), .second, .unset, .unset, .unset, .unset, .unset, .unset, .unset, .unset] [(.int (p1 &&& (1 : Int32)))])) t := fun t k => by
      refine XS.ifNo X0.here hx rfl (hb hby at_3) rfl ((if0 _ _).trans (feq hc54).1) ?_
      show Steps p.tables e below (s₁.setTop (mkF m 6 #[.val (.int p1), .val (.int p2), .val (.long q1), .second, .val (.long q2), .second, .unset, .unset, .unset, .unset, .unset, .unset, .unset, .unset] [])) t
      refine XS.iconst X0.here hx rfl (hb hby at_6) ?_
      show Steps p.tables e below (s₁.setTop (mkF m 7 #[.val (.int p1), .val (.int p2), .val (.long q1), .second, .val (.long q2), .second, .unset, .unset, .unset, .unset, .unset, .unset, .unset, .unset] [(.int (1 : Int32))])) t
      refine XS.goto X0.here hx rfl (pc0 := 7) (pc' := 11) rfl (hb hby at_7) (by decide) (by decide) ?_
      show Steps p.tables e below (s₁.setTop (mkF m 11 #[.val (.int p1), .val (.int p2), .val (.long q1), .second, .val (.long q2), .second, .unset, .unset, .unset, .unset, .unset, .unset, .unset, .unset] [(.int (1 : Int32))])) t
      refine XS.istore X0.here hx rfl (hb hby at_11) rfl (l' := #[.val (.int p1), .val (.int p2), .val (.long q1), .second, .val (.long q2), .second, .val (.int (1 : Int32)), .unset, .unset, .unset, .unset, .unset, .unset, .unset]) rfl ?_
      show Steps p.tables e below (s₁.setTop (mkF m 13 #[.val (.int p1), .val (.int p2), .val (.long q1), .second, .val (.long q2), .second, .val (.int (1 : Int32)), .unset, .unset, .unset, .unset, .unset, .unset, .unset] [])) t
      refine XS.iloadN X0.here hx rfl (hb hby at_13) rfl ?_
      show Steps p.tables e below (s₁.setTop (mkF m 14 #[.val (.int p1), .val (.int p2), .val (.long q1), .second, .val (.long q2), .second, .val (.int (1 : Int32)), .unset, .unset, .unset, .unset, .unset, .unset, .unset] [(.int p1)])) t
      refine XS.iconst X0.here hx rfl (hb hby at_14) ?_
      show Steps p.tables e below (s₁.setTop (mkF m 15 #[.val (.int p1), .val (.int p2), .val (.long q1), .second, .val (.long q2), .second, .val (.int (1 : Int32)), .unset, .unset, .unset, .unset, .unset, .unset, .unset] [(.int (2 : Int32)), (.int p1)])) t
      refine XS.iand X0.here hx rfl (hb hby at_15) rfl ?_
      exact k
    refine WP.st bk125 ?_
    clear bk125
    by_cases hc124 : (p1 &&& (2 : Int32)) = (0 : Int32)
    · skip
      have bk126 : ∀ t, Steps p.tables e below (s₁.setTop (mkF m 26 #[.val (.int p1), .val (.int p2), .val (.long q1), .second, .val (.long q2), .second, .val (.int (1 : Int32)), .val (.int (0 : Int32)), .unset, .unset, .unset, .unset, .unset, .unset] [])) t → Steps p.tables e below (s₁.setTop (mkF m 16 #[.val (.int p1), .val (.int p2), .val (.long q1), .second, .val (.long q2), .second, .val (.int (1 : Int32)), .unset, .unset, .unset, .unset, .unset, .unset, .unset] [(.int (p1 &&& (2 : Int32)))])) t := fun t k => by
        refine XS.ifYes X0.here hx rfl (pc0 := 16) (pc' := 23) rfl (hb hby at_16) rfl ((if0 _ _).trans (teq hc124).1) (by decide) (by decide) ?_
        show Steps p.tables e below (s₁.setTop (mkF m 23 #[.val (.int p1), .val (.int p2), .val (.long q1), .second, .val (.long q2), .second, .val (.int (1 : Int32)), .unset, .unset, .unset, .unset, .unset, .unset, .unset] [])) t
        refine XS.iconst X0.here hx rfl (hb hby at_23) ?_
        show Steps p.tables e below (s₁.setTop (mkF m 24 #[.val (.int p1), .val (.int p2), .val (.long q1), .second, .val (.long q2), .second, .val (.int (1 : Int32)), .unset, .unset, .unset, .unset, .unset, .unset, .unset] [(.int (0 : Int32))])) t
        refine XS.istore X0.here hx rfl (hb hby at_24) rfl (l' := #[.val (.int p1), .val (.int p2), .val (.long q1), .second, .val (.long q2), .second, .val (.int (1 : Int32)), .val (.int (0 : Int32)), .unset, .unset, .unset, .unset, .unset, .unset]) rfl ?_
        exact k
      refine WP.st bk126 ?_
      clear bk126
      obtain ⟨T127, h127, X127, e127, E127, A127, D127, -, st127⟩ := newO X0 hx hZ hown (hw _ (List.mem_of_getElem? (i := 0) rfl)) (hw _ (List.mem_of_getElem? (i := 1) rfl)) (hw _ (List.mem_of_getElem? (i := 2) rfl)) e0 (g := (mkF m 26 #[.val (.int p1), .val (.int p2), .val (.long q1), .second, .val (.long q2), .second, .val (.int (1 : Int32)), .val (.int (0 : Int32)), .unset, .unset, .unset, .unset, .unset, .unset] [])) rfl (hb hby at_26) (by decide) (by decide)
      obtain ⟨b127, g127⟩ : ∃ z, z = h0.size := ⟨_, rfl⟩
      rw [← g127] at A127 D127 st127
      refine WP.st st127 ?_
      clear st127
      have g_b127 : n0 ≤ b127 := Nat.le_trans Z0 (Nat.le_of_eq g127.symm)
      replace Z0 := Nat.le_trans Z0 E127.1
      have E_b127 := A127
      have F_b127_longestValues : Fld Z h127 b127 "com/example/skope/skope/xml/Intake" "longestValues" "[I" .null := D127 (Or.inl (hw _ (List.mem_of_getElem? (i := 11) rfl))) (ty := (.array .int)) (by decide)
      have F_b127_dropsNames : Fld Z h127 b127 "com/example/skope/skope/xml/Intake" "dropsNames" "Z" (.int (0 : Int32)) := D127 (Or.inl (hw _ (List.mem_of_getElem? (i := 13) rfl))) (ty := .boolean) (by decide)
      have F_b127_nesting : Fld Z h127 b127 "com/example/skope/skope/xml/Intake" "nesting" "I" (.int (0 : Int32)) := D127 (Or.inl (hw _ (List.mem_of_getElem? (i := 25) rfl))) (ty := .int) (by decide)
      have F_b127_passedOnDeclarations : Fld Z h127 b127 "com/example/skope/skope/xml/Intake" "passedOnDeclarations" "J" (.long (0 : Int64)) := D127 (Or.inl (hw _ (List.mem_of_getElem? (i := 36) rfl))) (ty := .long) (by decide)
      have F_b127_passedOnChars : Fld Z h127 b127 "com/example/skope/skope/xml/Intake" "passedOnChars" "J" (.long (0 : Int64)) := D127 (Or.inl (hw _ (List.mem_of_getElem? (i := 38) rfl))) (ty := .long) (by decide)
      have F_b127_documentTypeDeclaration : Fld Z h127 b127 "com/example/skope/skope/xml/Intake" "documentTypeDeclaration" "Z" (.int (0 : Int32)) := D127 (Or.inl (hw _ (List.mem_of_getElem? (i := 50) rfl))) (ty := .boolean) (by decide)
      have F_b127_bytes : Fld Z h127 b127 "com/example/skope/skope/xml/Intake" "bytes" "J" (.long (0 : Int64)) := D127 (Or.inl (hw _ (List.mem_of_getElem? (i := 52) rfl))) (ty := .long) (by decide)
      have F_b127_stretch : Fld Z h127 b127 "com/example/skope/skope/xml/Intake" "stretch" "J" (.long (0 : Int64)) := D127 (Or.inl (hw _ (List.mem_of_getElem? (i := 54) rfl))) (ty := .long) (by decide)
      have F_b127_started : Fld Z h127 b127 "com/example/skope/skope/xml/Intake" "started" "Z" (.int (0 : Int32)) := D127 (Or.inl (hw _ (List.mem_of_getElem? (i := 56) rfl))) (ty := .boolean) (by decide)
      have F_b127_internalGeneralEntity : Fld Z h127 b127 "com/example/skope/skope/xml/Intake" "internalGeneralEntity" "Z" (.int (0 : Int32)) := D127 (Or.inl (hw _ (List.mem_of_getElem? (i := 58) rfl))) (ty := .boolean) (by decide)
      have F_b127_internalParameterEntity : Fld Z h127 b127 "com/example/skope/skope/xml/Intake" "internalParameterEntity" "Z" (.int (0 : Int32)) := D127 (Or.inl (hw _ (List.mem_of_getElem? (i := 60) rfl))) (ty := .boolean) (by decide)
      have F_b127_attributeList : Fld Z h127 b127 "com/example/skope/skope/xml/Intake" "attributeList" "Z" (.int (0 : Int32)) := D127 (Or.inl (hw _ (List.mem_of_getElem? (i := 62) rfl))) (ty := .boolean) (by decide)
      have F_b127_declaringBytes : Fld Z h127 b127 "com/example/skope/skope/xml/Intake" "declaringBytes" "J" (.long (0 : Int64)) := D127 (Or.inl (hw _ (List.mem_of_getElem? (i := 69) rfl))) (ty := .long) (by decide)
      clear D127 A127
      show WP p.tables e below _ T127 (mkF m 29 #[.val (.int p1), .val (.int p2), .val (.long q1), .second, .val (.long q2), .second, .val (.int (1 : Int32)), .val (.int (0 : Int32)), .unset, .unset, .unset, .unset, .unset, .unset] [(.ref b127)])
      have bk128 : ∀ t, Steps p.tables e below (T127.setTop (mkF m 30 #[.val (.int p1), .val (.int p2), .val (.long q1), .second, .val (.long q2), .second, .val (.int (1 : Int32)), .val (.int (0 : Int32)), .unset, .unset, .unset, .unset, .unset, .unset] [(.ref b127), (.ref b127)])) t → Steps p.tables e below (T127.setTop (mkF m 29 #[.val (.int p1), .val (.int p2), .val (.long q1), .second, .val (.long q2), .second, .val (.int (1 : Int32)), .val (.int (0 : Int32)), .unset, .unset, .unset, .unset, .unset, .unset] [(.ref b127)])) t := fun t k => by
        refine XS.dup X127.here hx rfl (hb hby at_29) rfl rfl ?_
        exact k
      refine WP.st bk128 ?_
      clear bk128
      obtain ⟨_, _, ⟨T129, L129, k129, n129⟩, -, X129, ⟨Lc129, hQ129, l129, y129, z129⟩, st129⟩ := X127.specialBack hx (y := (⟨"com/example/skope/skope/xml/Intake", "<init>", "()V"⟩ : MethodName)) rfl hown (mvT hZ (hw _ (List.mem_of_getElem? (i := 3) rfl))) (mvT hZ (hw _ (List.mem_of_getElem? (i := 4) rfl))) (mvT hZ (hw _ (List.mem_of_getElem? (i := 5) rfl))) (by decide) (backOf (W := 1) (rm1 l Z a0 hw [] b127 Value.null (0 : Int32) (0 : Int32) (0 : Int64) (0 : Int64) (0 : Int32) (0 : Int64) (0 : Int64) (0 : Int32) (0 : Int32) (0 : Int32) (0 : Int32) (0 : Int64) h127 n0 Z0 E_b127 g_b127 F_b127_longestValues F_b127_dropsNames F_b127_nesting F_b127_passedOnDeclarations F_b127_passedOnChars F_b127_documentTypeDeclaration F_b127_bytes F_b127_stretch F_b127_started F_b127_internalGeneralEntity F_b127_internalParameterEntity F_b127_attributeList F_b127_declaringBytes) hZ (hw _ (List.mem_of_getElem? (i := 5) rfl)) (hw _ (List.mem_of_getElem? (i := 2) rfl)) (by decide) (by decide)) (g := (mkF m 30 #[.val (.int p1), .val (.int p2), .val (.long q1), .second, .val (.long q2), .second, .val (.int (1 : Int32)), .val (.int (0 : Int32)), .unset, .unset, .unset, .unset, .unset, .unset] [(.ref b127), (.ref b127)])) rfl (by rw [hml]; rfl) (Steps.refl _) (a := b127) (argsL := []) (rest := [(.ref b127)]) (lenOf pd_1 rfl) rfl (by show 2 * 0 + _ ≤ _; exact Nat.le_of_eq rfl) (hb hby at_30) (fun _ _ => ⟨rfl, e127, (by decide : 1 + 1 ≤ _), (by decide : 15 + 0 ≤ _)⟩)
      dsimp only [Pt.U, Pt.locs, Pt.cells, Pt.slots] at X129 l129 y129 z129 st129 hQ129
      subst l129 y129 z129
      obtain ⟨rfl, Nq129, Kq129, nF129_b127_dropsNames, nF129_b127_nesting, nF129_b127_passedOnDeclarations, nF129_b127_passedOnChars, nF129_b127_documentTypeDeclaration, nF129_b127_bytes, nF129_b127_stretch, nF129_b127_started, nF129_b127_internalGeneralEntity, nF129_b127_internalParameterEntity, nF129_b127_attributeList, nF129_b127_declaringBytes⟩ := hQ129
      replace NF := Fr.app NF Nq129
      clear Nq129
      refine WP.tr st129 ?_
      clear st129
      obtain ⟨h129, e129⟩ : ∃ h, T129.heap = h := ⟨_, rfl⟩
      rw [e129] at Kq129 nF129_b127_dropsNames nF129_b127_nesting nF129_b127_passedOnDeclarations nF129_b127_passedOnChars nF129_b127_documentTypeDeclaration nF129_b127_bytes nF129_b127_stretch nF129_b127_started nF129_b127_internalGeneralEntity nF129_b127_internalParameterEntity nF129_b127_attributeList nF129_b127_declaringBytes
      replace E_b127 := E_b127.keep Kq129
      clear F_b127_longestValues
      clear F_b127_dropsNames
      clear F_b127_nesting
      clear F_b127_passedOnDeclarations
      clear F_b127_passedOnChars
      clear F_b127_documentTypeDeclaration
      clear F_b127_bytes
      clear F_b127_stretch
      clear F_b127_started
      clear F_b127_internalGeneralEntity
      clear F_b127_internalParameterEntity
      clear F_b127_attributeList
      clear F_b127_declaringBytes
      replace Z0 := Nat.le_trans Z0 Kq129.1
      clear Kq129
      have F_b127_dropsNames := nF129_b127_dropsNames
      clear nF129_b127_dropsNames
      have F_b127_nesting := nF129_b127_nesting
      clear nF129_b127_nesting
      have F_b127_passedOnDeclarations := nF129_b127_passedOnDeclarations
      clear nF129_b127_passedOnDeclarations
      have F_b127_passedOnChars := nF129_b127_passedOnChars
      clear nF129_b127_passedOnChars
      have F_b127_documentTypeDeclaration := nF129_b127_documentTypeDeclaration
      clear nF129_b127_documentTypeDeclaration
      have F_b127_bytes := nF129_b127_bytes
      clear nF129_b127_bytes
      have F_b127_stretch := nF129_b127_stretch
      clear nF129_b127_stretch
      have F_b127_started := nF129_b127_started
      clear nF129_b127_started
      have F_b127_internalGeneralEntity := nF129_b127_internalGeneralEntity
      clear nF129_b127_internalGeneralEntity
      have F_b127_internalParameterEntity := nF129_b127_internalParameterEntity
      clear nF129_b127_internalParameterEntity
      have F_b127_attributeList := nF129_b127_attributeList
      clear nF129_b127_attributeList
      have F_b127_declaringBytes := nF129_b127_declaringBytes
      clear nF129_b127_declaringBytes
      show WP p.tables e below _ T129 (mkF m 33 #[.val (.int p1), .val (.int p2), .val (.long q1), .second, .val (.long q2), .second, .val (.int (1 : Int32)), .val (.int (0 : Int32)), .unset, .unset, .unset, .unset, .unset, .unset] [(.ref b127)])
      have bk130 : ∀ t, Steps p.tables e below (T129.setTop (mkF m 37 #[.val (.int p1), .val (.int p2), .val (.long q1), .second, .val (.long q2), .second, .val (.int (1 : Int32)), .val (.int (0 : Int32)), .val (.ref b127), .unset, .unset, .unset, .unset, .unset] [(.ref b127)])) t → Steps p.tables e below (T129.setTop (mkF m 33 #[.val (.int p1), .val (.int p2), .val (.long q1), .second, .val (.long q2), .second, .val (.int (1 : Int32)), .val (.int (0 : Int32)), .unset, .unset, .unset, .unset, .unset, .unset] [(.ref b127)])) t := fun t k => by
        refine XS.astore X129.here hx rfl (hb hby at_33) rfl rfl (l' := #[.val (.int p1), .val (.int p2), .val (.long q1), .second, .val (.long q2), .second, .val (.int (1 : Int32)), .val (.int (0 : Int32)), .val (.ref b127), .unset, .unset, .unset, .unset, .unset]) rfl ?_
        show Steps p.tables e below (T129.setTop (mkF m 35 #[.val (.int p1), .val (.int p2), .val (.long q1), .second, .val (.long q2), .second, .val (.int (1 : Int32)), .val (.int (0 : Int32)), .val (.ref b127), .unset, .unset, .unset, .unset, .unset] [])) t
        refine XS.aload X129.here hx rfl (hb hby at_35) rfl rfl ?_
        exact k
      refine WP.st bk130 ?_
      clear bk130
      obtain ⟨cq131, kq131, q131a, q131b, q131c⟩ := isOf hZ e129 E_b127
      obtain ⟨_, _, ⟨T131, L131, k131, n131⟩, -, X131, ⟨Lc131, hQ131, l131, y131, z131⟩, st131⟩ := X129.virtualBack hx (y := (⟨"com/example/skope/skope/xml/Intake", "dropsNames", "()Z"⟩ : MethodName)) (z := (⟨"com/example/skope/skope/xml/Intake", "dropsNames", "()Z"⟩ : MethodName)) hown (mvT hZ (hw _ (List.mem_of_getElem? (i := 14) rfl))) (mvT hZ (hw _ (List.mem_of_getElem? (i := 15) rfl))) (notFace_of_selects (args := #[]) (mvT hZ (hw _ (List.mem_of_getElem? (i := 17) rfl)))) (mvT hZ (hw _ (List.mem_of_getElem? (i := 17) rfl))) (mvT hZ (hw _ (List.mem_of_getElem? (i := 16) rfl))) (by decide) (backOf (W := 0) (rm3 l Z a0 hw [] b127 (1 : Int32) h129 n0 Z0 F_b127_dropsNames) hZ (hw _ (List.mem_of_getElem? (i := 18) rfl)) (hw _ (List.mem_of_getElem? (i := 2) rfl)) (by decide) (by decide)) q131a q131c (g := (mkF m 37 #[.val (.int p1), .val (.int p2), .val (.long q1), .second, .val (.long q2), .second, .val (.int (1 : Int32)), .val (.int (0 : Int32)), .val (.ref b127), .unset, .unset, .unset, .unset, .unset] [(.ref b127)])) rfl (by rw [hml]; rfl) (Steps.refl _) (argsL := []) (rest := []) (lenOf pd_2 rfl) rfl (by show 2 * 0 + _ ≤ _; exact Nat.le_of_eq rfl) (hb hby at_37) (fun _ _ => ⟨rfl, e129, (by decide : 2 + 0 ≤ _), (by decide : 15 + 0 ≤ _)⟩)
      dsimp only [Pt.U, Pt.locs, Pt.cells, Pt.slots] at X131 l131 y131 z131 st131 hQ131
      subst l131 y131 z131
      obtain ⟨rfl, Nq131, Kq131⟩ := hQ131
      replace NF := Fr.app NF Nq131
      clear Nq131
      refine WP.tr st131 ?_
      clear st131
      replace Kq131 := Kq131.trans (rfl : h129 = h129)
      show WP p.tables e below _ T131 (mkF m 40 #[.val (.int p1), .val (.int p2), .val (.long q1), .second, .val (.long q2), .second, .val (.int (1 : Int32)), .val (.int (0 : Int32)), .val (.ref b127), .unset, .unset, .unset, .unset, .unset] [(.int (nar .boolean (1 : Int32)))])
      rw [show (nar .boolean (1 : Int32)) = (1 : Int32) from by decide]
      show WP p.tables e below _ T131 (mkF m 40 #[.val (.int p1), .val (.int p2), .val (.long q1), .second, .val (.long q2), .second, .val (.int (1 : Int32)), .val (.int (0 : Int32)), .val (.ref b127), .unset, .unset, .unset, .unset, .unset] [(.int (1 : Int32))])
      have bk132 : ∀ t, Steps p.tables e below (T131.setTop (mkF m 45 #[.val (.int p1), .val (.int p2), .val (.long q1), .second, .val (.long q2), .second, .val (.int (1 : Int32)), .val (.int (0 : Int32)), .val (.ref b127), .val (.int (1 : Int32)), .unset, .unset, .unset, .unset] [(.int p2), (.ref b127)])) t → Steps p.tables e below (T131.setTop (mkF m 40 #[.val (.int p1), .val (.int p2), .val (.long q1), .second, .val (.long q2), .second, .val (.int (1 : Int32)), .val (.int (0 : Int32)), .val (.ref b127), .unset, .unset, .unset, .unset, .unset] [(.int (1 : Int32))])) t := fun t k => by
        refine XS.istore X131.here hx rfl (hb hby at_40) rfl (l' := #[.val (.int p1), .val (.int p2), .val (.long q1), .second, .val (.long q2), .second, .val (.int (1 : Int32)), .val (.int (0 : Int32)), .val (.ref b127), .val (.int (1 : Int32)), .unset, .unset, .unset, .unset]) rfl ?_
        show Steps p.tables e below (T131.setTop (mkF m 42 #[.val (.int p1), .val (.int p2), .val (.long q1), .second, .val (.long q2), .second, .val (.int (1 : Int32)), .val (.int (0 : Int32)), .val (.ref b127), .val (.int (1 : Int32)), .unset, .unset, .unset, .unset] [])) t
        refine XS.aload X131.here hx rfl (hb hby at_42) rfl rfl ?_
        show Steps p.tables e below (T131.setTop (mkF m 44 #[.val (.int p1), .val (.int p2), .val (.long q1), .second, .val (.long q2), .second, .val (.int (1 : Int32)), .val (.int (0 : Int32)), .val (.ref b127), .val (.int (1 : Int32)), .unset, .unset, .unset, .unset] [(.ref b127)])) t
        refine XS.iloadN X131.here hx rfl (hb hby at_44) rfl ?_
        exact k
      refine WP.st bk132 ?_
      clear bk132
      obtain ⟨cq133, kq133, q133a, q133b, q133c⟩ := isOf hZ Kq131 E_b127
      obtain ⟨_, _, ⟨T133, L133, k133, n133⟩, -, X133, ⟨Lc133, hQ133, l133, y133, z133⟩, st133⟩ := X131.virtualBack hx (y := (⟨"com/example/skope/skope/xml/Intake", "addNesting", "(I)V"⟩ : MethodName)) (z := (⟨"com/example/skope/skope/xml/Intake", "addNesting", "(I)V"⟩ : MethodName)) hown (mvT hZ (hw _ (List.mem_of_getElem? (i := 19) rfl))) (mvT hZ (hw _ (List.mem_of_getElem? (i := 20) rfl))) (notFace_of_selects (args := #[]) (mvT hZ (hw _ (List.mem_of_getElem? (i := 22) rfl)))) (mvT hZ (hw _ (List.mem_of_getElem? (i := 22) rfl))) (mvT hZ (hw _ (List.mem_of_getElem? (i := 21) rfl))) (by decide) (backOf (W := 0) (rm4 l Z a0 hw [] b127 p2 (1 : Int32) (0 : Int32) (0 : Int64) (0 : Int64) (0 : Int32) (0 : Int64) (0 : Int64) (0 : Int32) (0 : Int32) (0 : Int32) (0 : Int32) (0 : Int64) h129 n0 Z0 E_b127 g_b127 F_b127_dropsNames F_b127_nesting F_b127_passedOnDeclarations F_b127_passedOnChars F_b127_documentTypeDeclaration F_b127_bytes F_b127_stretch F_b127_started F_b127_internalGeneralEntity F_b127_internalParameterEntity F_b127_attributeList F_b127_declaringBytes) hZ (hw _ (List.mem_of_getElem? (i := 23) rfl)) (hw _ (List.mem_of_getElem? (i := 2) rfl)) (by decide) (by decide)) q133a q133c (g := (mkF m 45 #[.val (.int p1), .val (.int p2), .val (.long q1), .second, .val (.long q2), .second, .val (.int (1 : Int32)), .val (.int (0 : Int32)), .val (.ref b127), .val (.int (1 : Int32)), .unset, .unset, .unset, .unset] [(.int p2), (.ref b127)])) rfl (by rw [hml]; rfl) (Steps.refl _) (argsL := [(.int p2)]) (rest := []) (lenOf pd_3 rfl) rfl (by show 2 * 0 + _ ≤ _; exact Nat.le_of_eq rfl) (hb hby at_45) (fun _ _ => ⟨rfl, Kq131, (by decide : 2 + 0 ≤ _), (by decide : 15 + 0 ≤ _)⟩)
      dsimp only [Pt.U, Pt.locs, Pt.cells, Pt.slots] at X133 l133 y133 z133 st133 hQ133
      subst l133 y133 z133
      obtain ⟨rfl, Nq133, Kq133, nF133_b127_dropsNames, nF133_b127_nesting, nF133_b127_passedOnDeclarations, nF133_b127_passedOnChars, nF133_b127_documentTypeDeclaration, nF133_b127_bytes, nF133_b127_stretch, nF133_b127_started, nF133_b127_internalGeneralEntity, nF133_b127_internalParameterEntity, nF133_b127_attributeList, nF133_b127_declaringBytes⟩ := hQ133
      replace NF := Fr.app NF Nq133
      clear Nq133
      refine WP.tr st133 ?_
      clear st133
      obtain ⟨h133, e133⟩ : ∃ h, T133.heap = h := ⟨_, rfl⟩
      rw [e133] at Kq133 nF133_b127_dropsNames nF133_b127_nesting nF133_b127_passedOnDeclarations nF133_b127_passedOnChars nF133_b127_documentTypeDeclaration nF133_b127_bytes nF133_b127_stretch nF133_b127_started nF133_b127_internalGeneralEntity nF133_b127_internalParameterEntity nF133_b127_attributeList nF133_b127_declaringBytes
      replace E_b127 := E_b127.keep Kq133
      clear F_b127_dropsNames
      clear F_b127_nesting
      clear F_b127_passedOnDeclarations
      clear F_b127_passedOnChars
      clear F_b127_documentTypeDeclaration
      clear F_b127_bytes
      clear F_b127_stretch
      clear F_b127_started
      clear F_b127_internalGeneralEntity
      clear F_b127_internalParameterEntity
      clear F_b127_attributeList
      clear F_b127_declaringBytes
      replace Z0 := Nat.le_trans Z0 Kq133.1
      clear Kq133
      have F_b127_dropsNames := nF133_b127_dropsNames
      clear nF133_b127_dropsNames
      have F_b127_nesting := nF133_b127_nesting
      clear nF133_b127_nesting
      have F_b127_passedOnDeclarations := nF133_b127_passedOnDeclarations
      clear nF133_b127_passedOnDeclarations
      have F_b127_passedOnChars := nF133_b127_passedOnChars
      clear nF133_b127_passedOnChars
      have F_b127_documentTypeDeclaration := nF133_b127_documentTypeDeclaration
      clear nF133_b127_documentTypeDeclaration
      have F_b127_bytes := nF133_b127_bytes
      clear nF133_b127_bytes
      have F_b127_stretch := nF133_b127_stretch
      clear nF133_b127_stretch
      have F_b127_started := nF133_b127_started
      clear nF133_b127_started
      have F_b127_internalGeneralEntity := nF133_b127_internalGeneralEntity
      clear nF133_b127_internalGeneralEntity
      have F_b127_internalParameterEntity := nF133_b127_internalParameterEntity
      clear nF133_b127_internalParameterEntity
      have F_b127_attributeList := nF133_b127_attributeList
      clear nF133_b127_attributeList
      have F_b127_declaringBytes := nF133_b127_declaringBytes
      clear nF133_b127_declaringBytes
      show WP p.tables e below _ T133 (mkF m 48 #[.val (.int p1), .val (.int p2), .val (.long q1), .second, .val (.long q2), .second, .val (.int (1 : Int32)), .val (.int (0 : Int32)), .val (.ref b127), .val (.int (1 : Int32)), .unset, .unset, .unset, .unset] [])
      have bk134 : ∀ t, Steps p.tables e below (T133.setTop (mkF m 53 #[.val (.int p1), .val (.int p2), .val (.long q1), .second, .val (.long q2), .second, .val (.int (1 : Int32)), .val (.int (0 : Int32)), .val (.ref b127), .val (.int (1 : Int32)), .unset, .unset, .unset, .unset] [(.long q2), (.long q1), (.ref b127)])) t → Steps p.tables e below (T133.setTop (mkF m 48 #[.val (.int p1), .val (.int p2), .val (.long q1), .second, .val (.long q2), .second, .val (.int (1 : Int32)), .val (.int (0 : Int32)), .val (.ref b127), .val (.int (1 : Int32)), .unset, .unset, .unset, .unset] [])) t := fun t k => by
        refine XS.aload X133.here hx rfl (hb hby at_48) rfl rfl ?_
        show Steps p.tables e below (T133.setTop (mkF m 50 #[.val (.int p1), .val (.int p2), .val (.long q1), .second, .val (.long q2), .second, .val (.int (1 : Int32)), .val (.int (0 : Int32)), .val (.ref b127), .val (.int (1 : Int32)), .unset, .unset, .unset, .unset] [(.ref b127)])) t
        refine XS.lloadN X133.here hx rfl (hb hby at_50) rfl ?_
        show Steps p.tables e below (T133.setTop (mkF m 51 #[.val (.int p1), .val (.int p2), .val (.long q1), .second, .val (.long q2), .second, .val (.int (1 : Int32)), .val (.int (0 : Int32)), .val (.ref b127), .val (.int (1 : Int32)), .unset, .unset, .unset, .unset] [(.long q1), (.ref b127)])) t
        refine XS.lload X133.here hx rfl (hb hby at_51) rfl ?_
        exact k
      refine WP.st bk134 ?_
      clear bk134
      obtain ⟨cq135, kq135, q135a, q135b, q135c⟩ := isOf hZ e133 E_b127
      obtain ⟨_, _, ⟨T135, L135, k135, n135⟩, -, X135, ⟨Lc135, hQ135, l135, y135, z135⟩, st135⟩ := X133.virtualBack hx (y := (⟨"com/example/skope/skope/xml/Intake", "passOn", "(JJ)V"⟩ : MethodName)) (z := (⟨"com/example/skope/skope/xml/Intake", "passOn", "(JJ)V"⟩ : MethodName)) hown (mvT hZ (hw _ (List.mem_of_getElem? (i := 30) rfl))) (mvT hZ (hw _ (List.mem_of_getElem? (i := 31) rfl))) (notFace_of_selects (args := #[]) (mvT hZ (hw _ (List.mem_of_getElem? (i := 33) rfl)))) (mvT hZ (hw _ (List.mem_of_getElem? (i := 33) rfl))) (mvT hZ (hw _ (List.mem_of_getElem? (i := 32) rfl))) (by decide) (backOf (W := 0) (rm6 l Z a0 hw [] b127 q1 q2 (1 : Int32) (own_max (0 : Int32) p2) (0 : Int64) (0 : Int64) (0 : Int32) (0 : Int64) (0 : Int64) (0 : Int32) (0 : Int32) (0 : Int32) (0 : Int32) (0 : Int64) h133 n0 Z0 E_b127 g_b127 F_b127_dropsNames F_b127_nesting F_b127_passedOnDeclarations F_b127_passedOnChars F_b127_documentTypeDeclaration F_b127_bytes F_b127_stretch F_b127_started F_b127_internalGeneralEntity F_b127_internalParameterEntity F_b127_attributeList F_b127_declaringBytes) hZ (hw _ (List.mem_of_getElem? (i := 34) rfl)) (hw _ (List.mem_of_getElem? (i := 2) rfl)) (by decide) (by decide)) q135a q135c (g := (mkF m 53 #[.val (.int p1), .val (.int p2), .val (.long q1), .second, .val (.long q2), .second, .val (.int (1 : Int32)), .val (.int (0 : Int32)), .val (.ref b127), .val (.int (1 : Int32)), .unset, .unset, .unset, .unset] [(.long q2), (.long q1), (.ref b127)])) rfl (by rw [hml]; rfl) (Steps.refl _) (argsL := [(.long q1), (.long q2)]) (rest := []) (lenOf pd_4 rfl) rfl (by show 2 * 0 + _ ≤ _; exact Nat.le_of_eq rfl) (hb hby at_53) (fun _ _ => ⟨rfl, e133, (by decide : 2 + 0 ≤ _), (by decide : 15 + 0 ≤ _)⟩)
      dsimp only [Pt.U, Pt.locs, Pt.cells, Pt.slots] at X135 l135 y135 z135 st135 hQ135
      subst l135 y135 z135
      obtain ⟨rfl, Nq135, Kq135, nF135_b127_dropsNames, nF135_b127_nesting, nF135_b127_passedOnDeclarations, nF135_b127_passedOnChars, nF135_b127_documentTypeDeclaration, nF135_b127_bytes, nF135_b127_stretch, nF135_b127_started, nF135_b127_internalGeneralEntity, nF135_b127_internalParameterEntity, nF135_b127_attributeList, nF135_b127_declaringBytes⟩ := hQ135
      replace NF := Fr.app NF Nq135
      clear Nq135
      refine WP.tr st135 ?_
      clear st135
      obtain ⟨h135, e135⟩ : ∃ h, T135.heap = h := ⟨_, rfl⟩
      rw [e135] at Kq135 nF135_b127_dropsNames nF135_b127_nesting nF135_b127_passedOnDeclarations nF135_b127_passedOnChars nF135_b127_documentTypeDeclaration nF135_b127_bytes nF135_b127_stretch nF135_b127_started nF135_b127_internalGeneralEntity nF135_b127_internalParameterEntity nF135_b127_attributeList nF135_b127_declaringBytes
      replace E_b127 := E_b127.keep Kq135
      clear F_b127_dropsNames
      clear F_b127_nesting
      clear F_b127_passedOnDeclarations
      clear F_b127_passedOnChars
      clear F_b127_documentTypeDeclaration
      clear F_b127_bytes
      clear F_b127_stretch
      clear F_b127_started
      clear F_b127_internalGeneralEntity
      clear F_b127_internalParameterEntity
      clear F_b127_attributeList
      clear F_b127_declaringBytes
      replace Z0 := Nat.le_trans Z0 Kq135.1
      clear Kq135
      have F_b127_dropsNames := nF135_b127_dropsNames
      clear nF135_b127_dropsNames
      have F_b127_nesting := nF135_b127_nesting
      clear nF135_b127_nesting
      have F_b127_passedOnDeclarations := nF135_b127_passedOnDeclarations
      clear nF135_b127_passedOnDeclarations
      have F_b127_passedOnChars := nF135_b127_passedOnChars
      clear nF135_b127_passedOnChars
      have F_b127_documentTypeDeclaration := nF135_b127_documentTypeDeclaration
      clear nF135_b127_documentTypeDeclaration
      have F_b127_bytes := nF135_b127_bytes
      clear nF135_b127_bytes
      have F_b127_stretch := nF135_b127_stretch
      clear nF135_b127_stretch
      have F_b127_started := nF135_b127_started
      clear nF135_b127_started
      have F_b127_internalGeneralEntity := nF135_b127_internalGeneralEntity
      clear nF135_b127_internalGeneralEntity
      have F_b127_internalParameterEntity := nF135_b127_internalParameterEntity
      clear nF135_b127_internalParameterEntity
      have F_b127_attributeList := nF135_b127_attributeList
      clear nF135_b127_attributeList
      have F_b127_declaringBytes := nF135_b127_declaringBytes
      clear nF135_b127_declaringBytes
      show WP p.tables e below _ T135 (mkF m 56 #[.val (.int p1), .val (.int p2), .val (.long q1), .second, .val (.long q2), .second, .val (.int (1 : Int32)), .val (.int (0 : Int32)), .val (.ref b127), .val (.int (1 : Int32)), .unset, .unset, .unset, .unset] [])
      have bk136 : ∀ t, Steps p.tables e below (T135.setTop (mkF m 60 #[.val (.int p1), .val (.int p2), .val (.long q1), .second, .val (.long q2), .second, .val (.int (1 : Int32)), .val (.int (0 : Int32)), .val (.ref b127), .val (.int (1 : Int32)), .unset, .unset, .unset, .unset] [(.int (1 : Int32)), (.ref b127)])) t → Steps p.tables e below (T135.setTop (mkF m 56 #[.val (.int p1), .val (.int p2), .val (.long q1), .second, .val (.long q2), .second, .val (.int (1 : Int32)), .val (.int (0 : Int32)), .val (.ref b127), .val (.int (1 : Int32)), .unset, .unset, .unset, .unset] [])) t := fun t k => by
        refine XS.aload X135.here hx rfl (hb hby at_56) rfl rfl ?_
        show Steps p.tables e below (T135.setTop (mkF m 58 #[.val (.int p1), .val (.int p2), .val (.long q1), .second, .val (.long q2), .second, .val (.int (1 : Int32)), .val (.int (0 : Int32)), .val (.ref b127), .val (.int (1 : Int32)), .unset, .unset, .unset, .unset] [(.ref b127)])) t
        refine XS.iload X135.here hx rfl (hb hby at_58) rfl ?_
        exact k
      refine WP.st bk136 ?_
      clear bk136
      obtain ⟨cq137, kq137, q137a, q137b, q137c⟩ := isOf hZ e135 E_b127
      obtain ⟨_, _, ⟨T137, L137, k137, n137⟩, -, X137, ⟨Lc137, hQ137, l137, y137, z137⟩, st137⟩ := X135.virtualBack hx (y := (⟨"com/example/skope/skope/xml/Intake", "dropNames", "(Z)V"⟩ : MethodName)) (z := (⟨"com/example/skope/skope/xml/Intake", "dropNames", "(Z)V"⟩ : MethodName)) hown (mvT hZ (hw _ (List.mem_of_getElem? (i := 39) rfl))) (mvT hZ (hw _ (List.mem_of_getElem? (i := 40) rfl))) (notFace_of_selects (args := #[]) (mvT hZ (hw _ (List.mem_of_getElem? (i := 42) rfl)))) (mvT hZ (hw _ (List.mem_of_getElem? (i := 42) rfl))) (mvT hZ (hw _ (List.mem_of_getElem? (i := 41) rfl))) (by decide) (backOf (W := 0) (rm7 l Z a0 hw [] b127 (1 : Int32) (1 : Int32) (own_max (0 : Int32) p2) q1 q2 (0 : Int32) (0 : Int64) (0 : Int64) (0 : Int32) (0 : Int32) (0 : Int32) (0 : Int32) (0 : Int64) h135 n0 Z0 E_b127 g_b127 F_b127_dropsNames F_b127_nesting F_b127_passedOnDeclarations F_b127_passedOnChars F_b127_documentTypeDeclaration F_b127_bytes F_b127_stretch F_b127_started F_b127_internalGeneralEntity F_b127_internalParameterEntity F_b127_attributeList F_b127_declaringBytes (by decide : (1 : Int32) = 0 ∨ (1 : Int32) = 1)) hZ (hw _ (List.mem_of_getElem? (i := 43) rfl)) (hw _ (List.mem_of_getElem? (i := 2) rfl)) (by decide) (by decide)) q137a q137c (g := (mkF m 60 #[.val (.int p1), .val (.int p2), .val (.long q1), .second, .val (.long q2), .second, .val (.int (1 : Int32)), .val (.int (0 : Int32)), .val (.ref b127), .val (.int (1 : Int32)), .unset, .unset, .unset, .unset] [(.int (1 : Int32)), (.ref b127)])) rfl (by rw [hml]; rfl) (Steps.refl _) (argsL := [(.int (1 : Int32))]) (rest := []) (lenOf pd_5 rfl) rfl (by show 2 * 0 + _ ≤ _; exact Nat.le_of_eq rfl) (hb hby at_60) (fun _ _ => ⟨rfl, e135, (by decide : 2 + 0 ≤ _), (by decide : 15 + 0 ≤ _)⟩)
      dsimp only [Pt.U, Pt.locs, Pt.cells, Pt.slots] at X137 l137 y137 z137 st137 hQ137
      subst l137 y137 z137
      obtain ⟨rfl, Nq137, Kq137, nF137_b127_dropsNames, nF137_b127_nesting, nF137_b127_passedOnDeclarations, nF137_b127_passedOnChars, nF137_b127_documentTypeDeclaration, nF137_b127_bytes, nF137_b127_stretch, nF137_b127_started, nF137_b127_internalGeneralEntity, nF137_b127_internalParameterEntity, nF137_b127_attributeList, nF137_b127_declaringBytes⟩ := hQ137
      replace NF := Fr.app NF Nq137
      clear Nq137
      refine WP.tr st137 ?_
      clear st137
      obtain ⟨h137, e137⟩ : ∃ h, T137.heap = h := ⟨_, rfl⟩
      rw [e137] at Kq137 nF137_b127_dropsNames nF137_b127_nesting nF137_b127_passedOnDeclarations nF137_b127_passedOnChars nF137_b127_documentTypeDeclaration nF137_b127_bytes nF137_b127_stretch nF137_b127_started nF137_b127_internalGeneralEntity nF137_b127_internalParameterEntity nF137_b127_attributeList nF137_b127_declaringBytes
      replace E_b127 := E_b127.keep Kq137
      clear F_b127_dropsNames
      clear F_b127_nesting
      clear F_b127_passedOnDeclarations
      clear F_b127_passedOnChars
      clear F_b127_documentTypeDeclaration
      clear F_b127_bytes
      clear F_b127_stretch
      clear F_b127_started
      clear F_b127_internalGeneralEntity
      clear F_b127_internalParameterEntity
      clear F_b127_attributeList
      clear F_b127_declaringBytes
      replace Z0 := Nat.le_trans Z0 Kq137.1
      clear Kq137
      have F_b127_dropsNames := nF137_b127_dropsNames
      clear nF137_b127_dropsNames
      have F_b127_nesting := nF137_b127_nesting
      clear nF137_b127_nesting
      have F_b127_passedOnDeclarations := nF137_b127_passedOnDeclarations
      clear nF137_b127_passedOnDeclarations
      have F_b127_passedOnChars := nF137_b127_passedOnChars
      clear nF137_b127_passedOnChars
      have F_b127_documentTypeDeclaration := nF137_b127_documentTypeDeclaration
      clear nF137_b127_documentTypeDeclaration
      have F_b127_bytes := nF137_b127_bytes
      clear nF137_b127_bytes
      have F_b127_stretch := nF137_b127_stretch
      clear nF137_b127_stretch
      have F_b127_started := nF137_b127_started
      clear nF137_b127_started
      have F_b127_internalGeneralEntity := nF137_b127_internalGeneralEntity
      clear nF137_b127_internalGeneralEntity
      have F_b127_internalParameterEntity := nF137_b127_internalParameterEntity
      clear nF137_b127_internalParameterEntity
      have F_b127_attributeList := nF137_b127_attributeList
      clear nF137_b127_attributeList
      have F_b127_declaringBytes := nF137_b127_declaringBytes
      clear nF137_b127_declaringBytes
      show WP p.tables e below _ T137 (mkF m 63 #[.val (.int p1), .val (.int p2), .val (.long q1), .second, .val (.long q2), .second, .val (.int (1 : Int32)), .val (.int (0 : Int32)), .val (.ref b127), .val (.int (1 : Int32)), .unset, .unset, .unset, .unset] [])
      have bk138 : ∀ t, Steps p.tables e below (T137.setTop (mkF m 65 #[.val (.int p1), .val (.int p2), .val (.long q1), .second, .val (.long q2), .second, .val (.int (1 : Int32)), .val (.int (0 : Int32)), .val (.ref b127), .val (.int (1 : Int32)), .unset, .unset, .unset, .unset] [(.ref b127)])) t → Steps p.tables e below (T137.setTop (mkF m 63 #[.val (.int p1), .val (.int p2), .val (.long q1), .second, .val (.long q2), .second, .val (.int (1 : Int32)), .val (.int (0 : Int32)), .val (.ref b127), .val (.int (1 : Int32)), .unset, .unset, .unset, .unset] [])) t := fun t k => by
        refine XS.aload X137.here hx rfl (hb hby at_63) rfl rfl ?_
        exact k
      refine WP.st bk138 ?_
      clear bk138
      obtain ⟨cq139, kq139, q139a, q139b, q139c⟩ := isOf hZ e137 E_b127
      obtain ⟨_, _, ⟨T139, L139, k139, n139⟩, -, X139, ⟨Lc139, hQ139, l139, y139, z139⟩, st139⟩ := X137.virtualBack hx (y := (⟨"com/example/skope/skope/xml/Intake", "dropsNames", "()Z"⟩ : MethodName)) (z := (⟨"com/example/skope/skope/xml/Intake", "dropsNames", "()Z"⟩ : MethodName)) hown (mvT hZ (hw _ (List.mem_of_getElem? (i := 14) rfl))) (mvT hZ (hw _ (List.mem_of_getElem? (i := 15) rfl))) (notFace_of_selects (args := #[]) (mvT hZ (hw _ (List.mem_of_getElem? (i := 17) rfl)))) (mvT hZ (hw _ (List.mem_of_getElem? (i := 17) rfl))) (mvT hZ (hw _ (List.mem_of_getElem? (i := 16) rfl))) (by decide) (backOf (W := 0) (rm3 l Z a0 hw [] b127 (1 : Int32) h137 n0 Z0 F_b127_dropsNames) hZ (hw _ (List.mem_of_getElem? (i := 18) rfl)) (hw _ (List.mem_of_getElem? (i := 2) rfl)) (by decide) (by decide)) q139a q139c (g := (mkF m 65 #[.val (.int p1), .val (.int p2), .val (.long q1), .second, .val (.long q2), .second, .val (.int (1 : Int32)), .val (.int (0 : Int32)), .val (.ref b127), .val (.int (1 : Int32)), .unset, .unset, .unset, .unset] [(.ref b127)])) rfl (by rw [hml]; rfl) (Steps.refl _) (argsL := []) (rest := []) (lenOf pd_2 rfl) rfl (by show 2 * 0 + _ ≤ _; exact Nat.le_of_eq rfl) (hb hby at_65) (fun _ _ => ⟨rfl, e137, (by decide : 2 + 0 ≤ _), (by decide : 15 + 0 ≤ _)⟩)
      dsimp only [Pt.U, Pt.locs, Pt.cells, Pt.slots] at X139 l139 y139 z139 st139 hQ139
      subst l139 y139 z139
      obtain ⟨rfl, Nq139, Kq139⟩ := hQ139
      replace NF := Fr.app NF Nq139
      clear Nq139
      refine WP.tr st139 ?_
      clear st139
      replace Kq139 := Kq139.trans (rfl : h137 = h137)
      show WP p.tables e below _ T139 (mkF m 68 #[.val (.int p1), .val (.int p2), .val (.long q1), .second, .val (.long q2), .second, .val (.int (1 : Int32)), .val (.int (0 : Int32)), .val (.ref b127), .val (.int (1 : Int32)), .unset, .unset, .unset, .unset] [(.int (nar .boolean (1 : Int32)))])
      rw [show (nar .boolean (1 : Int32)) = (1 : Int32) from by decide]
      show WP p.tables e below _ T139 (mkF m 68 #[.val (.int p1), .val (.int p2), .val (.long q1), .second, .val (.long q2), .second, .val (.int (1 : Int32)), .val (.int (0 : Int32)), .val (.ref b127), .val (.int (1 : Int32)), .unset, .unset, .unset, .unset] [(.int (1 : Int32))])
      have bk140 : ∀ t, Steps p.tables e below (T139.setTop (mkF m 82 #[.val (.int p1), .val (.int p2), .val (.long q1), .second, .val (.long q2), .second, .val (.int (1 : Int32)), .val (.int (0 : Int32)), .val (.ref b127), .val (.int (1 : Int32)), .val (.int (1 : Int32)), .unset, .unset, .unset] [(.ref b127)])) t → Steps p.tables e below (T139.setTop (mkF m 68 #[.val (.int p1), .val (.int p2), .val (.long q1), .second, .val (.long q2), .second, .val (.int (1 : Int32)), .val (.int (0 : Int32)), .val (.ref b127), .val (.int (1 : Int32)), .unset, .unset, .unset, .unset] [(.int (1 : Int32))])) t := fun t k => by
        refine XS.iload X139.here hx rfl (hb hby at_68) rfl ?_
        show Steps p.tables e below (T139.setTop (mkF m 70 #[.val (.int p1), .val (.int p2), .val (.long q1), .second, .val (.long q2), .second, .val (.int (1 : Int32)), .val (.int (0 : Int32)), .val (.ref b127), .val (.int (1 : Int32)), .unset, .unset, .unset, .unset] [(.int (1 : Int32)), (.int (1 : Int32))])) t
        refine XS.icmpNo X139.here hx rfl (hb hby at_70) rfl (teq (by decide : (1 : Int32) = (1 : Int32))).2 ?_
        show Steps p.tables e below (T139.setTop (mkF m 73 #[.val (.int p1), .val (.int p2), .val (.long q1), .second, .val (.long q2), .second, .val (.int (1 : Int32)), .val (.int (0 : Int32)), .val (.ref b127), .val (.int (1 : Int32)), .unset, .unset, .unset, .unset] [])) t
        refine XS.iconst X139.here hx rfl (hb hby at_73) ?_
        show Steps p.tables e below (T139.setTop (mkF m 74 #[.val (.int p1), .val (.int p2), .val (.long q1), .second, .val (.long q2), .second, .val (.int (1 : Int32)), .val (.int (0 : Int32)), .val (.ref b127), .val (.int (1 : Int32)), .unset, .unset, .unset, .unset] [(.int (1 : Int32))])) t
        refine XS.goto X139.here hx rfl (pc0 := 74) (pc' := 78) rfl (hb hby at_74) (by decide) (by decide) ?_
        show Steps p.tables e below (T139.setTop (mkF m 78 #[.val (.int p1), .val (.int p2), .val (.long q1), .second, .val (.long q2), .second, .val (.int (1 : Int32)), .val (.int (0 : Int32)), .val (.ref b127), .val (.int (1 : Int32)), .unset, .unset, .unset, .unset] [(.int (1 : Int32))])) t
        refine XS.istore X139.here hx rfl (hb hby at_78) rfl (l' := #[.val (.int p1), .val (.int p2), .val (.long q1), .second, .val (.long q2), .second, .val (.int (1 : Int32)), .val (.int (0 : Int32)), .val (.ref b127), .val (.int (1 : Int32)), .val (.int (1 : Int32)), .unset, .unset, .unset]) rfl ?_
        show Steps p.tables e below (T139.setTop (mkF m 80 #[.val (.int p1), .val (.int p2), .val (.long q1), .second, .val (.long q2), .second, .val (.int (1 : Int32)), .val (.int (0 : Int32)), .val (.ref b127), .val (.int (1 : Int32)), .val (.int (1 : Int32)), .unset, .unset, .unset] [])) t
        refine XS.aload X139.here hx rfl (hb hby at_80) rfl rfl ?_
        exact k
      refine WP.st bk140 ?_
      clear bk140
      obtain ⟨cq141, kq141, q141a, q141b, q141c⟩ := isOf hZ Kq139 E_b127
      obtain ⟨_, _, ⟨T141, L141, k141, n141⟩, -, X141, ⟨Lc141, hQ141, l141, y141, z141⟩, st141⟩ := X139.virtualBack hx (y := (⟨"com/example/skope/skope/xml/Intake", "clear", "()V"⟩ : MethodName)) (z := (⟨"com/example/skope/skope/xml/Intake", "clear", "()V"⟩ : MethodName)) hown (mvT hZ (hw _ (List.mem_of_getElem? (i := 44) rfl))) (mvT hZ (hw _ (List.mem_of_getElem? (i := 45) rfl))) (notFace_of_selects (args := #[]) (mvT hZ (hw _ (List.mem_of_getElem? (i := 47) rfl)))) (mvT hZ (hw _ (List.mem_of_getElem? (i := 47) rfl))) (mvT hZ (hw _ (List.mem_of_getElem? (i := 46) rfl))) (by decide) (backOf (W := 0) (rm8 l Z a0 hw [] b127 (1 : Int32) (own_max (0 : Int32) p2) q1 q2 (0 : Int32) (0 : Int64) (0 : Int64) (0 : Int32) (0 : Int32) (0 : Int32) (0 : Int32) (if (1 : Int32) = 0 then (0 : Int64) else 0) h137 n0 Z0 E_b127 g_b127 F_b127_dropsNames F_b127_nesting F_b127_passedOnDeclarations F_b127_passedOnChars F_b127_documentTypeDeclaration F_b127_bytes F_b127_stretch F_b127_started F_b127_internalGeneralEntity F_b127_internalParameterEntity F_b127_attributeList F_b127_declaringBytes (by decide : (0 : Int32) = (0 : Int32))) hZ (hw _ (List.mem_of_getElem? (i := 48) rfl)) (hw _ (List.mem_of_getElem? (i := 2) rfl)) (by decide) (by decide)) q141a q141c (g := (mkF m 82 #[.val (.int p1), .val (.int p2), .val (.long q1), .second, .val (.long q2), .second, .val (.int (1 : Int32)), .val (.int (0 : Int32)), .val (.ref b127), .val (.int (1 : Int32)), .val (.int (1 : Int32)), .unset, .unset, .unset] [(.ref b127)])) rfl (by rw [hml]; rfl) (Steps.refl _) (argsL := []) (rest := []) (lenOf pd_1 rfl) rfl (by show 2 * 0 + _ ≤ _; exact Nat.le_of_eq rfl) (hb hby at_82) (fun _ _ => ⟨rfl, Kq139, (by decide : 2 + 0 ≤ _), (by decide : 15 + 0 ≤ _)⟩)
      dsimp only [Pt.U, Pt.locs, Pt.cells, Pt.slots] at X141 l141 y141 z141 st141 hQ141
      subst l141 y141 z141
      obtain ⟨rfl, Nq141, Kq141, nF141_b127_dropsNames, nF141_b127_nesting, nF141_b127_passedOnDeclarations, nF141_b127_passedOnChars, nF141_b127_documentTypeDeclaration, nF141_b127_bytes, nF141_b127_stretch, nF141_b127_started, nF141_b127_internalGeneralEntity, nF141_b127_internalParameterEntity, nF141_b127_attributeList, nF141_b127_declaringBytes⟩ := hQ141
      replace NF := Fr.app NF Nq141
      clear Nq141
      refine WP.tr st141 ?_
      clear st141
      obtain ⟨h141, e141⟩ : ∃ h, T141.heap = h := ⟨_, rfl⟩
      rw [e141] at Kq141 nF141_b127_dropsNames nF141_b127_nesting nF141_b127_passedOnDeclarations nF141_b127_passedOnChars nF141_b127_documentTypeDeclaration nF141_b127_bytes nF141_b127_stretch nF141_b127_started nF141_b127_internalGeneralEntity nF141_b127_internalParameterEntity nF141_b127_attributeList nF141_b127_declaringBytes
      replace E_b127 := E_b127.keep Kq141
      clear F_b127_dropsNames
      clear F_b127_nesting
      clear F_b127_passedOnDeclarations
      clear F_b127_passedOnChars
      clear F_b127_documentTypeDeclaration
      clear F_b127_bytes
      clear F_b127_stretch
      clear F_b127_started
      clear F_b127_internalGeneralEntity
      clear F_b127_internalParameterEntity
      clear F_b127_attributeList
      clear F_b127_declaringBytes
      replace Z0 := Nat.le_trans Z0 Kq141.1
      clear Kq141
      have F_b127_dropsNames := nF141_b127_dropsNames
      clear nF141_b127_dropsNames
      have F_b127_nesting := nF141_b127_nesting
      clear nF141_b127_nesting
      have F_b127_passedOnDeclarations := nF141_b127_passedOnDeclarations
      clear nF141_b127_passedOnDeclarations
      have F_b127_passedOnChars := nF141_b127_passedOnChars
      clear nF141_b127_passedOnChars
      have F_b127_documentTypeDeclaration := nF141_b127_documentTypeDeclaration
      clear nF141_b127_documentTypeDeclaration
      have F_b127_bytes := nF141_b127_bytes
      clear nF141_b127_bytes
      have F_b127_stretch := nF141_b127_stretch
      clear nF141_b127_stretch
      have F_b127_started := nF141_b127_started
      clear nF141_b127_started
      have F_b127_internalGeneralEntity := nF141_b127_internalGeneralEntity
      clear nF141_b127_internalGeneralEntity
      have F_b127_internalParameterEntity := nF141_b127_internalParameterEntity
      clear nF141_b127_internalParameterEntity
      have F_b127_attributeList := nF141_b127_attributeList
      clear nF141_b127_attributeList
      have F_b127_declaringBytes := nF141_b127_declaringBytes
      clear nF141_b127_declaringBytes
      show WP p.tables e below _ T141 (mkF m 85 #[.val (.int p1), .val (.int p2), .val (.long q1), .second, .val (.long q2), .second, .val (.int (1 : Int32)), .val (.int (0 : Int32)), .val (.ref b127), .val (.int (1 : Int32)), .val (.int (1 : Int32)), .unset, .unset, .unset] [])
      have bk142 : ∀ t, Steps p.tables e below (T141.setTop (mkF m 87 #[.val (.int p1), .val (.int p2), .val (.long q1), .second, .val (.long q2), .second, .val (.int (1 : Int32)), .val (.int (0 : Int32)), .val (.ref b127), .val (.int (1 : Int32)), .val (.int (1 : Int32)), .unset, .unset, .unset] [(.ref b127)])) t → Steps p.tables e below (T141.setTop (mkF m 85 #[.val (.int p1), .val (.int p2), .val (.long q1), .second, .val (.long q2), .second, .val (.int (1 : Int32)), .val (.int (0 : Int32)), .val (.ref b127), .val (.int (1 : Int32)), .val (.int (1 : Int32)), .unset, .unset, .unset] [])) t := fun t k => by
        refine XS.aload X141.here hx rfl (hb hby at_85) rfl rfl ?_
        exact k
      refine WP.st bk142 ?_
      clear bk142
      obtain ⟨cq143, kq143, q143a, q143b, q143c⟩ := isOf hZ e141 E_b127
      obtain ⟨_, _, ⟨T143, L143, k143, n143⟩, -, X143, ⟨Lc143, hQ143, l143, y143, z143⟩, st143⟩ := X141.virtualBack hx (y := (⟨"com/example/skope/skope/xml/Intake", "dropsNames", "()Z"⟩ : MethodName)) (z := (⟨"com/example/skope/skope/xml/Intake", "dropsNames", "()Z"⟩ : MethodName)) hown (mvT hZ (hw _ (List.mem_of_getElem? (i := 14) rfl))) (mvT hZ (hw _ (List.mem_of_getElem? (i := 15) rfl))) (notFace_of_selects (args := #[]) (mvT hZ (hw _ (List.mem_of_getElem? (i := 17) rfl)))) (mvT hZ (hw _ (List.mem_of_getElem? (i := 17) rfl))) (mvT hZ (hw _ (List.mem_of_getElem? (i := 16) rfl))) (by decide) (backOf (W := 0) (rm3 l Z a0 hw [] b127 (1 : Int32) h141 n0 Z0 F_b127_dropsNames) hZ (hw _ (List.mem_of_getElem? (i := 18) rfl)) (hw _ (List.mem_of_getElem? (i := 2) rfl)) (by decide) (by decide)) q143a q143c (g := (mkF m 87 #[.val (.int p1), .val (.int p2), .val (.long q1), .second, .val (.long q2), .second, .val (.int (1 : Int32)), .val (.int (0 : Int32)), .val (.ref b127), .val (.int (1 : Int32)), .val (.int (1 : Int32)), .unset, .unset, .unset] [(.ref b127)])) rfl (by rw [hml]; rfl) (Steps.refl _) (argsL := []) (rest := []) (lenOf pd_2 rfl) rfl (by show 2 * 0 + _ ≤ _; exact Nat.le_of_eq rfl) (hb hby at_87) (fun _ _ => ⟨rfl, e141, (by decide : 2 + 0 ≤ _), (by decide : 15 + 0 ≤ _)⟩)
      dsimp only [Pt.U, Pt.locs, Pt.cells, Pt.slots] at X143 l143 y143 z143 st143 hQ143
      subst l143 y143 z143
      obtain ⟨rfl, Nq143, Kq143⟩ := hQ143
      replace NF := Fr.app NF Nq143
      clear Nq143
      refine WP.tr st143 ?_
      clear st143
      replace Kq143 := Kq143.trans (rfl : h141 = h141)
      show WP p.tables e below _ T143 (mkF m 90 #[.val (.int p1), .val (.int p2), .val (.long q1), .second, .val (.long q2), .second, .val (.int (1 : Int32)), .val (.int (0 : Int32)), .val (.ref b127), .val (.int (1 : Int32)), .val (.int (1 : Int32)), .unset, .unset, .unset] [(.int (nar .boolean (1 : Int32)))])
      rw [show (nar .boolean (1 : Int32)) = (1 : Int32) from by decide]
      show WP p.tables e below _ T143 (mkF m 90 #[.val (.int p1), .val (.int p2), .val (.long q1), .second, .val (.long q2), .second, .val (.int (1 : Int32)), .val (.int (0 : Int32)), .val (.ref b127), .val (.int (1 : Int32)), .val (.int (1 : Int32)), .unset, .unset, .unset] [(.int (1 : Int32))])
      have bk144 : ∀ t, Steps p.tables e below (T143.setTop (mkF m 106 #[.val (.int p1), .val (.int p2), .val (.long q1), .second, .val (.long q2), .second, .val (.int (1 : Int32)), .val (.int (0 : Int32)), .val (.ref b127), .val (.int (1 : Int32)), .val (.int (1 : Int32)), .val (.int (1 : Int32)), .unset, .unset] [(.int (0 : Int32)), (.ref b127)])) t → Steps p.tables e below (T143.setTop (mkF m 90 #[.val (.int p1), .val (.int p2), .val (.long q1), .second, .val (.long q2), .second, .val (.int (1 : Int32)), .val (.int (0 : Int32)), .val (.ref b127), .val (.int (1 : Int32)), .val (.int (1 : Int32)), .unset, .unset, .unset] [(.int (1 : Int32))])) t := fun t k => by
        refine XS.iload X143.here hx rfl (hb hby at_90) rfl ?_
        show Steps p.tables e below (T143.setTop (mkF m 92 #[.val (.int p1), .val (.int p2), .val (.long q1), .second, .val (.long q2), .second, .val (.int (1 : Int32)), .val (.int (0 : Int32)), .val (.ref b127), .val (.int (1 : Int32)), .val (.int (1 : Int32)), .unset, .unset, .unset] [(.int (1 : Int32)), (.int (1 : Int32))])) t
        refine XS.icmpNo X143.here hx rfl (hb hby at_92) rfl (teq (by decide : (1 : Int32) = (1 : Int32))).2 ?_
        show Steps p.tables e below (T143.setTop (mkF m 95 #[.val (.int p1), .val (.int p2), .val (.long q1), .second, .val (.long q2), .second, .val (.int (1 : Int32)), .val (.int (0 : Int32)), .val (.ref b127), .val (.int (1 : Int32)), .val (.int (1 : Int32)), .unset, .unset, .unset] [])) t
        refine XS.iconst X143.here hx rfl (hb hby at_95) ?_
        show Steps p.tables e below (T143.setTop (mkF m 96 #[.val (.int p1), .val (.int p2), .val (.long q1), .second, .val (.long q2), .second, .val (.int (1 : Int32)), .val (.int (0 : Int32)), .val (.ref b127), .val (.int (1 : Int32)), .val (.int (1 : Int32)), .unset, .unset, .unset] [(.int (1 : Int32))])) t
        refine XS.goto X143.here hx rfl (pc0 := 96) (pc' := 100) rfl (hb hby at_96) (by decide) (by decide) ?_
        show Steps p.tables e below (T143.setTop (mkF m 100 #[.val (.int p1), .val (.int p2), .val (.long q1), .second, .val (.long q2), .second, .val (.int (1 : Int32)), .val (.int (0 : Int32)), .val (.ref b127), .val (.int (1 : Int32)), .val (.int (1 : Int32)), .unset, .unset, .unset] [(.int (1 : Int32))])) t
        refine XS.istore X143.here hx rfl (hb hby at_100) rfl (l' := #[.val (.int p1), .val (.int p2), .val (.long q1), .second, .val (.long q2), .second, .val (.int (1 : Int32)), .val (.int (0 : Int32)), .val (.ref b127), .val (.int (1 : Int32)), .val (.int (1 : Int32)), .val (.int (1 : Int32)), .unset, .unset]) rfl ?_
        show Steps p.tables e below (T143.setTop (mkF m 102 #[.val (.int p1), .val (.int p2), .val (.long q1), .second, .val (.long q2), .second, .val (.int (1 : Int32)), .val (.int (0 : Int32)), .val (.ref b127), .val (.int (1 : Int32)), .val (.int (1 : Int32)), .val (.int (1 : Int32)), .unset, .unset] [])) t
        refine XS.aload X143.here hx rfl (hb hby at_102) rfl rfl ?_
        show Steps p.tables e below (T143.setTop (mkF m 104 #[.val (.int p1), .val (.int p2), .val (.long q1), .second, .val (.long q2), .second, .val (.int (1 : Int32)), .val (.int (0 : Int32)), .val (.ref b127), .val (.int (1 : Int32)), .val (.int (1 : Int32)), .val (.int (1 : Int32)), .unset, .unset] [(.ref b127)])) t
        refine XS.iload X143.here hx rfl (hb hby at_104) rfl ?_
        exact k
      refine WP.st bk144 ?_
      clear bk144
      obtain ⟨cq145, kq145, q145a, q145b, q145c⟩ := isOf hZ Kq143 E_b127
      obtain ⟨_, _, ⟨T145, L145, k145, n145⟩, -, X145, ⟨Lc145, hQ145, l145, y145, z145⟩, st145⟩ := X143.virtualBack hx (y := (⟨"com/example/skope/skope/xml/Intake", "dropNames", "(Z)V"⟩ : MethodName)) (z := (⟨"com/example/skope/skope/xml/Intake", "dropNames", "(Z)V"⟩ : MethodName)) hown (mvT hZ (hw _ (List.mem_of_getElem? (i := 39) rfl))) (mvT hZ (hw _ (List.mem_of_getElem? (i := 40) rfl))) (notFace_of_selects (args := #[]) (mvT hZ (hw _ (List.mem_of_getElem? (i := 42) rfl)))) (mvT hZ (hw _ (List.mem_of_getElem? (i := 42) rfl))) (mvT hZ (hw _ (List.mem_of_getElem? (i := 41) rfl))) (by decide) (backOf (W := 0) (rm7 l Z a0 hw [] b127 (0 : Int32) (1 : Int32) (own_max (0 : Int32) p2) q1 q2 (0 : Int32) (0 : Int64) (0 : Int64) (0 : Int32) (0 : Int32) (0 : Int32) (0 : Int32) (if (1 : Int32) = 0 then (0 : Int64) else 0) h141 n0 Z0 E_b127 g_b127 F_b127_dropsNames F_b127_nesting F_b127_passedOnDeclarations F_b127_passedOnChars F_b127_documentTypeDeclaration F_b127_bytes F_b127_stretch F_b127_started F_b127_internalGeneralEntity F_b127_internalParameterEntity F_b127_attributeList F_b127_declaringBytes (by decide : (0 : Int32) = 0 ∨ (0 : Int32) = 1)) hZ (hw _ (List.mem_of_getElem? (i := 43) rfl)) (hw _ (List.mem_of_getElem? (i := 2) rfl)) (by decide) (by decide)) q145a q145c (g := (mkF m 106 #[.val (.int p1), .val (.int p2), .val (.long q1), .second, .val (.long q2), .second, .val (.int (1 : Int32)), .val (.int (0 : Int32)), .val (.ref b127), .val (.int (1 : Int32)), .val (.int (1 : Int32)), .val (.int (1 : Int32)), .unset, .unset] [(.int (0 : Int32)), (.ref b127)])) rfl (by rw [hml]; rfl) (Steps.refl _) (argsL := [(.int (0 : Int32))]) (rest := []) (lenOf pd_5 rfl) rfl (by show 2 * 0 + _ ≤ _; exact Nat.le_of_eq rfl) (hb hby at_106) (fun _ _ => ⟨rfl, Kq143, (by decide : 2 + 0 ≤ _), (by decide : 15 + 0 ≤ _)⟩)
      dsimp only [Pt.U, Pt.locs, Pt.cells, Pt.slots] at X145 l145 y145 z145 st145 hQ145
      subst l145 y145 z145
      obtain ⟨rfl, Nq145, Kq145, nF145_b127_dropsNames, nF145_b127_nesting, nF145_b127_passedOnDeclarations, nF145_b127_passedOnChars, nF145_b127_documentTypeDeclaration, nF145_b127_bytes, nF145_b127_stretch, nF145_b127_started, nF145_b127_internalGeneralEntity, nF145_b127_internalParameterEntity, nF145_b127_attributeList, nF145_b127_declaringBytes⟩ := hQ145
      replace NF := Fr.app NF Nq145
      clear Nq145
      refine WP.tr st145 ?_
      clear st145
      obtain ⟨h145, e145⟩ : ∃ h, T145.heap = h := ⟨_, rfl⟩
      rw [e145] at Kq145 nF145_b127_dropsNames nF145_b127_nesting nF145_b127_passedOnDeclarations nF145_b127_passedOnChars nF145_b127_documentTypeDeclaration nF145_b127_bytes nF145_b127_stretch nF145_b127_started nF145_b127_internalGeneralEntity nF145_b127_internalParameterEntity nF145_b127_attributeList nF145_b127_declaringBytes
      replace E_b127 := E_b127.keep Kq145
      clear F_b127_dropsNames
      clear F_b127_nesting
      clear F_b127_passedOnDeclarations
      clear F_b127_passedOnChars
      clear F_b127_documentTypeDeclaration
      clear F_b127_bytes
      clear F_b127_stretch
      clear F_b127_started
      clear F_b127_internalGeneralEntity
      clear F_b127_internalParameterEntity
      clear F_b127_attributeList
      clear F_b127_declaringBytes
      replace Z0 := Nat.le_trans Z0 Kq145.1
      clear Kq145
      have F_b127_dropsNames := nF145_b127_dropsNames
      clear nF145_b127_dropsNames
      have F_b127_nesting := nF145_b127_nesting
      clear nF145_b127_nesting
      have F_b127_passedOnDeclarations := nF145_b127_passedOnDeclarations
      clear nF145_b127_passedOnDeclarations
      have F_b127_passedOnChars := nF145_b127_passedOnChars
      clear nF145_b127_passedOnChars
      have F_b127_documentTypeDeclaration := nF145_b127_documentTypeDeclaration
      clear nF145_b127_documentTypeDeclaration
      have F_b127_bytes := nF145_b127_bytes
      clear nF145_b127_bytes
      have F_b127_stretch := nF145_b127_stretch
      clear nF145_b127_stretch
      have F_b127_started := nF145_b127_started
      clear nF145_b127_started
      have F_b127_internalGeneralEntity := nF145_b127_internalGeneralEntity
      clear nF145_b127_internalGeneralEntity
      have F_b127_internalParameterEntity := nF145_b127_internalParameterEntity
      clear nF145_b127_internalParameterEntity
      have F_b127_attributeList := nF145_b127_attributeList
      clear nF145_b127_attributeList
      have F_b127_declaringBytes := nF145_b127_declaringBytes
      clear nF145_b127_declaringBytes
      show WP p.tables e below _ T145 (mkF m 109 #[.val (.int p1), .val (.int p2), .val (.long q1), .second, .val (.long q2), .second, .val (.int (1 : Int32)), .val (.int (0 : Int32)), .val (.ref b127), .val (.int (1 : Int32)), .val (.int (1 : Int32)), .val (.int (1 : Int32)), .unset, .unset] [])
      have bk146 : ∀ t, Steps p.tables e below (T145.setTop (mkF m 111 #[.val (.int p1), .val (.int p2), .val (.long q1), .second, .val (.long q2), .second, .val (.int (1 : Int32)), .val (.int (0 : Int32)), .val (.ref b127), .val (.int (1 : Int32)), .val (.int (1 : Int32)), .val (.int (1 : Int32)), .unset, .unset] [(.ref b127)])) t → Steps p.tables e below (T145.setTop (mkF m 109 #[.val (.int p1), .val (.int p2), .val (.long q1), .second, .val (.long q2), .second, .val (.int (1 : Int32)), .val (.int (0 : Int32)), .val (.ref b127), .val (.int (1 : Int32)), .val (.int (1 : Int32)), .val (.int (1 : Int32)), .unset, .unset] [])) t := fun t k => by
        refine XS.aload X145.here hx rfl (hb hby at_109) rfl rfl ?_
        exact k
      refine WP.st bk146 ?_
      clear bk146
      obtain ⟨cq147, kq147, q147a, q147b, q147c⟩ := isOf hZ e145 E_b127
      obtain ⟨_, _, ⟨T147, L147, k147, n147⟩, -, X147, ⟨Lc147, hQ147, l147, y147, z147⟩, st147⟩ := X145.virtualBack hx (y := (⟨"com/example/skope/skope/xml/Intake", "dropsNames", "()Z"⟩ : MethodName)) (z := (⟨"com/example/skope/skope/xml/Intake", "dropsNames", "()Z"⟩ : MethodName)) hown (mvT hZ (hw _ (List.mem_of_getElem? (i := 14) rfl))) (mvT hZ (hw _ (List.mem_of_getElem? (i := 15) rfl))) (notFace_of_selects (args := #[]) (mvT hZ (hw _ (List.mem_of_getElem? (i := 17) rfl)))) (mvT hZ (hw _ (List.mem_of_getElem? (i := 17) rfl))) (mvT hZ (hw _ (List.mem_of_getElem? (i := 16) rfl))) (by decide) (backOf (W := 0) (rm3 l Z a0 hw [] b127 (0 : Int32) h145 n0 Z0 F_b127_dropsNames) hZ (hw _ (List.mem_of_getElem? (i := 18) rfl)) (hw _ (List.mem_of_getElem? (i := 2) rfl)) (by decide) (by decide)) q147a q147c (g := (mkF m 111 #[.val (.int p1), .val (.int p2), .val (.long q1), .second, .val (.long q2), .second, .val (.int (1 : Int32)), .val (.int (0 : Int32)), .val (.ref b127), .val (.int (1 : Int32)), .val (.int (1 : Int32)), .val (.int (1 : Int32)), .unset, .unset] [(.ref b127)])) rfl (by rw [hml]; rfl) (Steps.refl _) (argsL := []) (rest := []) (lenOf pd_2 rfl) rfl (by show 2 * 0 + _ ≤ _; exact Nat.le_of_eq rfl) (hb hby at_111) (fun _ _ => ⟨rfl, e145, (by decide : 2 + 0 ≤ _), (by decide : 15 + 0 ≤ _)⟩)
      dsimp only [Pt.U, Pt.locs, Pt.cells, Pt.slots] at X147 l147 y147 z147 st147 hQ147
      subst l147 y147 z147
      obtain ⟨rfl, Nq147, Kq147⟩ := hQ147
      replace NF := Fr.app NF Nq147
      clear Nq147
      refine WP.tr st147 ?_
      clear st147
      replace Kq147 := Kq147.trans (rfl : h145 = h145)
      show WP p.tables e below _ T147 (mkF m 114 #[.val (.int p1), .val (.int p2), .val (.long q1), .second, .val (.long q2), .second, .val (.int (1 : Int32)), .val (.int (0 : Int32)), .val (.ref b127), .val (.int (1 : Int32)), .val (.int (1 : Int32)), .val (.int (1 : Int32)), .unset, .unset] [(.int (nar .boolean (0 : Int32)))])
      rw [show (nar .boolean (0 : Int32)) = (0 : Int32) from by decide]
      show WP p.tables e below _ T147 (mkF m 114 #[.val (.int p1), .val (.int p2), .val (.long q1), .second, .val (.long q2), .second, .val (.int (1 : Int32)), .val (.int (0 : Int32)), .val (.ref b127), .val (.int (1 : Int32)), .val (.int (1 : Int32)), .val (.int (1 : Int32)), .unset, .unset] [(.int (0 : Int32))])
      have bk148 : ∀ t, Steps p.tables e below (T147.setTop (mkF m 128 #[.val (.int p1), .val (.int p2), .val (.long q1), .second, .val (.long q2), .second, .val (.int (1 : Int32)), .val (.int (0 : Int32)), .val (.ref b127), .val (.int (1 : Int32)), .val (.int (1 : Int32)), .val (.int (1 : Int32)), .val (.int (1 : Int32)), .unset] [(.ref b127)])) t → Steps p.tables e below (T147.setTop (mkF m 114 #[.val (.int p1), .val (.int p2), .val (.long q1), .second, .val (.long q2), .second, .val (.int (1 : Int32)), .val (.int (0 : Int32)), .val (.ref b127), .val (.int (1 : Int32)), .val (.int (1 : Int32)), .val (.int (1 : Int32)), .unset, .unset] [(.int (0 : Int32))])) t := fun t k => by
        refine XS.iload X147.here hx rfl (hb hby at_114) rfl ?_
        show Steps p.tables e below (T147.setTop (mkF m 116 #[.val (.int p1), .val (.int p2), .val (.long q1), .second, .val (.long q2), .second, .val (.int (1 : Int32)), .val (.int (0 : Int32)), .val (.ref b127), .val (.int (1 : Int32)), .val (.int (1 : Int32)), .val (.int (1 : Int32)), .unset, .unset] [(.int (0 : Int32)), (.int (0 : Int32))])) t
        refine XS.icmpNo X147.here hx rfl (hb hby at_116) rfl (teq (by decide : (0 : Int32) = (0 : Int32))).2 ?_
        show Steps p.tables e below (T147.setTop (mkF m 119 #[.val (.int p1), .val (.int p2), .val (.long q1), .second, .val (.long q2), .second, .val (.int (1 : Int32)), .val (.int (0 : Int32)), .val (.ref b127), .val (.int (1 : Int32)), .val (.int (1 : Int32)), .val (.int (1 : Int32)), .unset, .unset] [])) t
        refine XS.iconst X147.here hx rfl (hb hby at_119) ?_
        show Steps p.tables e below (T147.setTop (mkF m 120 #[.val (.int p1), .val (.int p2), .val (.long q1), .second, .val (.long q2), .second, .val (.int (1 : Int32)), .val (.int (0 : Int32)), .val (.ref b127), .val (.int (1 : Int32)), .val (.int (1 : Int32)), .val (.int (1 : Int32)), .unset, .unset] [(.int (1 : Int32))])) t
        refine XS.goto X147.here hx rfl (pc0 := 120) (pc' := 124) rfl (hb hby at_120) (by decide) (by decide) ?_
        show Steps p.tables e below (T147.setTop (mkF m 124 #[.val (.int p1), .val (.int p2), .val (.long q1), .second, .val (.long q2), .second, .val (.int (1 : Int32)), .val (.int (0 : Int32)), .val (.ref b127), .val (.int (1 : Int32)), .val (.int (1 : Int32)), .val (.int (1 : Int32)), .unset, .unset] [(.int (1 : Int32))])) t
        refine XS.istore X147.here hx rfl (hb hby at_124) rfl (l' := #[.val (.int p1), .val (.int p2), .val (.long q1), .second, .val (.long q2), .second, .val (.int (1 : Int32)), .val (.int (0 : Int32)), .val (.ref b127), .val (.int (1 : Int32)), .val (.int (1 : Int32)), .val (.int (1 : Int32)), .val (.int (1 : Int32)), .unset]) rfl ?_
        show Steps p.tables e below (T147.setTop (mkF m 126 #[.val (.int p1), .val (.int p2), .val (.long q1), .second, .val (.long q2), .second, .val (.int (1 : Int32)), .val (.int (0 : Int32)), .val (.ref b127), .val (.int (1 : Int32)), .val (.int (1 : Int32)), .val (.int (1 : Int32)), .val (.int (1 : Int32)), .unset] [])) t
        refine XS.aload X147.here hx rfl (hb hby at_126) rfl rfl ?_
        exact k
      refine WP.st bk148 ?_
      clear bk148
      obtain ⟨cq149, kq149, q149a, q149b, q149c⟩ := isOf hZ Kq147 E_b127
      obtain ⟨_, _, ⟨T149, L149, k149, n149⟩, -, X149, ⟨Lc149, hQ149, l149, y149, z149⟩, st149⟩ := X147.virtualBack hx (y := (⟨"com/example/skope/skope/xml/Intake", "declaringBytes", "()J"⟩ : MethodName)) (z := (⟨"com/example/skope/skope/xml/Intake", "declaringBytes", "()J"⟩ : MethodName)) hown (mvT hZ (hw _ (List.mem_of_getElem? (i := 63) rfl))) (mvT hZ (hw _ (List.mem_of_getElem? (i := 64) rfl))) (notFace_of_selects (args := #[]) (mvT hZ (hw _ (List.mem_of_getElem? (i := 66) rfl)))) (mvT hZ (hw _ (List.mem_of_getElem? (i := 66) rfl))) (mvT hZ (hw _ (List.mem_of_getElem? (i := 65) rfl))) (by decide) (backOf (W := 0) (rm9 l Z a0 hw [] b127 (if (0 : Int32) = 0 then (if (1 : Int32) = 0 then (0 : Int64) else 0) else 0) h145 n0 Z0 F_b127_declaringBytes) hZ (hw _ (List.mem_of_getElem? (i := 67) rfl)) (hw _ (List.mem_of_getElem? (i := 2) rfl)) (by decide) (by decide)) q149a q149c (g := (mkF m 128 #[.val (.int p1), .val (.int p2), .val (.long q1), .second, .val (.long q2), .second, .val (.int (1 : Int32)), .val (.int (0 : Int32)), .val (.ref b127), .val (.int (1 : Int32)), .val (.int (1 : Int32)), .val (.int (1 : Int32)), .val (.int (1 : Int32)), .unset] [(.ref b127)])) rfl (by rw [hml]; rfl) (Steps.refl _) (argsL := []) (rest := []) (lenOf pd_6 rfl) rfl (by show 2 * 0 + _ ≤ _; exact Nat.le_of_eq rfl) (hb hby at_128) (fun _ _ => ⟨rfl, Kq147, (by decide : 2 + 0 ≤ _), (by decide : 15 + 0 ≤ _)⟩)
      dsimp only [Pt.U, Pt.locs, Pt.cells, Pt.slots] at X149 l149 y149 z149 st149 hQ149
      subst l149 y149 z149
      obtain ⟨rfl, Nq149, Kq149⟩ := hQ149
      replace NF := Fr.app NF Nq149
      clear Nq149
      refine WP.tr st149 ?_
      clear st149
      replace Kq149 := Kq149.trans (rfl : h145 = h145)
      show WP p.tables e below _ T149 (mkF m 131 #[.val (.int p1), .val (.int p2), .val (.long q1), .second, .val (.long q2), .second, .val (.int (1 : Int32)), .val (.int (0 : Int32)), .val (.ref b127), .val (.int (1 : Int32)), .val (.int (1 : Int32)), .val (.int (1 : Int32)), .val (.int (1 : Int32)), .unset] [(.long (if (0 : Int32) = 0 then (if (1 : Int32) = 0 then (0 : Int64) else 0) else 0))])
      have bk150 : ∀ t, Steps p.tables e below (T149.setTop (mkF m 138 #[.val (.int p1), .val (.int p2), .val (.long q1), .second, .val (.long q2), .second, .val (.int (1 : Int32)), .val (.int (0 : Int32)), .val (.ref b127), .val (.int (1 : Int32)), .val (.int (1 : Int32)), .val (.int (1 : Int32)), .val (.int (1 : Int32)), .unset] [(.ref b127)])) t → Steps p.tables e below (T149.setTop (mkF m 131 #[.val (.int p1), .val (.int p2), .val (.long q1), .second, .val (.long q2), .second, .val (.int (1 : Int32)), .val (.int (0 : Int32)), .val (.ref b127), .val (.int (1 : Int32)), .val (.int (1 : Int32)), .val (.int (1 : Int32)), .val (.int (1 : Int32)), .unset] [(.long (if (0 : Int32) = 0 then (if (1 : Int32) = 0 then (0 : Int64) else 0) else 0))])) t := fun t k => by
        refine XS.lconst X149.here hx rfl (hb hby at_131) ?_
        show Steps p.tables e below (T149.setTop (mkF m 132 #[.val (.int p1), .val (.int p2), .val (.long q1), .second, .val (.long q2), .second, .val (.int (1 : Int32)), .val (.int (0 : Int32)), .val (.ref b127), .val (.int (1 : Int32)), .val (.int (1 : Int32)), .val (.int (1 : Int32)), .val (.int (1 : Int32)), .unset] [(.long (0 : Int64)), (.long (if (0 : Int32) = 0 then (if (1 : Int32) = 0 then (0 : Int64) else 0) else 0))])) t
        refine XS.lcmp X149.here hx rfl (hb hby at_132) rfl ?_
        show Steps p.tables e below (T149.setTop (mkF m 133 #[.val (.int p1), .val (.int p2), .val (.long q1), .second, .val (.long q2), .second, .val (.int (1 : Int32)), .val (.int (0 : Int32)), .val (.ref b127), .val (.int (1 : Int32)), .val (.int (1 : Int32)), .val (.int (1 : Int32)), .val (.int (1 : Int32)), .unset] [(.int (lcmpW (if (0 : Int32) = 0 then (if (1 : Int32) = 0 then (0 : Int64) else 0) else 0) (0 : Int64)))])) t
        refine XS.ifNo X149.here hx rfl (hb hby at_133) rfl ((if0 _ _).trans (teq (by decide)).2) ?_
        show Steps p.tables e below (T149.setTop (mkF m 136 #[.val (.int p1), .val (.int p2), .val (.long q1), .second, .val (.long q2), .second, .val (.int (1 : Int32)), .val (.int (0 : Int32)), .val (.ref b127), .val (.int (1 : Int32)), .val (.int (1 : Int32)), .val (.int (1 : Int32)), .val (.int (1 : Int32)), .unset] [])) t
        refine XS.aload X149.here hx rfl (hb hby at_136) rfl rfl ?_
        exact k
      refine WP.st bk150 ?_
      clear bk150
      obtain ⟨cq151, kq151, q151a, q151b, q151c⟩ := isOf hZ Kq149 E_b127
      obtain ⟨_, _, ⟨T151, L151, k151, n151⟩, -, X151, ⟨Lc151, hQ151, l151, y151, z151⟩, st151⟩ := X149.virtualBack hx (y := (⟨"com/example/skope/skope/xml/Intake", "nesting", "()I"⟩ : MethodName)) (z := (⟨"com/example/skope/skope/xml/Intake", "nesting", "()I"⟩ : MethodName)) hown (mvT hZ (hw _ (List.mem_of_getElem? (i := 70) rfl))) (mvT hZ (hw _ (List.mem_of_getElem? (i := 71) rfl))) (notFace_of_selects (args := #[]) (mvT hZ (hw _ (List.mem_of_getElem? (i := 73) rfl)))) (mvT hZ (hw _ (List.mem_of_getElem? (i := 73) rfl))) (mvT hZ (hw _ (List.mem_of_getElem? (i := 72) rfl))) (by decide) (backOf (W := 0) (rm10 l Z a0 hw [] b127 (own_max (0 : Int32) p2) h145 n0 Z0 F_b127_nesting) hZ (hw _ (List.mem_of_getElem? (i := 74) rfl)) (hw _ (List.mem_of_getElem? (i := 2) rfl)) (by decide) (by decide)) q151a q151c (g := (mkF m 138 #[.val (.int p1), .val (.int p2), .val (.long q1), .second, .val (.long q2), .second, .val (.int (1 : Int32)), .val (.int (0 : Int32)), .val (.ref b127), .val (.int (1 : Int32)), .val (.int (1 : Int32)), .val (.int (1 : Int32)), .val (.int (1 : Int32)), .unset] [(.ref b127)])) rfl (by rw [hml]; rfl) (Steps.refl _) (argsL := []) (rest := []) (lenOf pd_7 rfl) rfl (by show 2 * 0 + _ ≤ _; exact Nat.le_of_eq rfl) (hb hby at_138) (fun _ _ => ⟨rfl, Kq149, (by decide : 2 + 0 ≤ _), (by decide : 15 + 0 ≤ _)⟩)
      dsimp only [Pt.U, Pt.locs, Pt.cells, Pt.slots] at X151 l151 y151 z151 st151 hQ151
      subst l151 y151 z151
      obtain ⟨rfl, Nq151, Kq151⟩ := hQ151
      replace NF := Fr.app NF Nq151
      clear Nq151
      refine WP.tr st151 ?_
      clear st151
      replace Kq151 := Kq151.trans (rfl : h145 = h145)
      show WP p.tables e below _ T151 (mkF m 141 #[.val (.int p1), .val (.int p2), .val (.long q1), .second, .val (.long q2), .second, .val (.int (1 : Int32)), .val (.int (0 : Int32)), .val (.ref b127), .val (.int (1 : Int32)), .val (.int (1 : Int32)), .val (.int (1 : Int32)), .val (.int (1 : Int32)), .unset] [(.int (own_max (0 : Int32) p2))])
      have bk152 : ∀ t, Steps p.tables e below (T151.setTop (mkF m 143 #[.val (.int p1), .val (.int p2), .val (.long q1), .second, .val (.long q2), .second, .val (.int (1 : Int32)), .val (.int (0 : Int32)), .val (.ref b127), .val (.int (1 : Int32)), .val (.int (1 : Int32)), .val (.int (1 : Int32)), .val (.int (1 : Int32)), .unset] [(.int p2), (.int (0 : Int32)), (.int (own_max (0 : Int32) p2))])) t → Steps p.tables e below (T151.setTop (mkF m 141 #[.val (.int p1), .val (.int p2), .val (.long q1), .second, .val (.long q2), .second, .val (.int (1 : Int32)), .val (.int (0 : Int32)), .val (.ref b127), .val (.int (1 : Int32)), .val (.int (1 : Int32)), .val (.int (1 : Int32)), .val (.int (1 : Int32)), .unset] [(.int (own_max (0 : Int32) p2))])) t := fun t k => by
        refine XS.iconst X151.here hx rfl (hb hby at_141) ?_
        show Steps p.tables e below (T151.setTop (mkF m 142 #[.val (.int p1), .val (.int p2), .val (.long q1), .second, .val (.long q2), .second, .val (.int (1 : Int32)), .val (.int (0 : Int32)), .val (.ref b127), .val (.int (1 : Int32)), .val (.int (1 : Int32)), .val (.int (1 : Int32)), .val (.int (1 : Int32)), .unset] [(.int (0 : Int32)), (.int (own_max (0 : Int32) p2))])) t
        refine XS.iloadN X151.here hx rfl (hb hby at_142) rfl ?_
        exact k
      refine WP.st bk152 ?_
      clear bk152
      obtain ⟨_, _, ⟨T153, L153, k153, n153⟩, -, X153, ⟨Lc153, hQ153, l153, y153, z153⟩, st153⟩ := Jvm.LawKit.callS X151 hx (y := (⟨"java/lang/Math", "max", "(II)I"⟩ : MethodName)) hown (mvT hZ (hw _ (List.mem_of_getElem? (i := 75) rfl))) (mvT hZ (hw _ (List.mem_of_getElem? (i := 27) rfl))) (mvT hZ (hw _ (List.mem_of_getElem? (i := 28) rfl))) (mvT hZ (hw _ (List.mem_of_getElem? (i := 29) rfl))) (by decide) (backOf (W := 1) (rm5 l Z a0 hw [] (0 : Int32) p2 h145 n0 Z0 ) hZ (hw _ (List.mem_of_getElem? (i := 29) rfl)) (hw _ (List.mem_of_getElem? (i := 28) rfl)) (by decide) (by decide)) (g := (mkF m 143 #[.val (.int p1), .val (.int p2), .val (.long q1), .second, .val (.long q2), .second, .val (.int (1 : Int32)), .val (.int (0 : Int32)), .val (.ref b127), .val (.int (1 : Int32)), .val (.int (1 : Int32)), .val (.int (1 : Int32)), .val (.int (1 : Int32)), .unset] [(.int p2), (.int (0 : Int32)), (.int (own_max (0 : Int32) p2))])) rfl (by rw [hml]; rfl) (argsL := [(.int (0 : Int32)), (.int p2)]) (rest := [(.int (own_max (0 : Int32) p2))]) (lenOf pd_0 rfl) rfl (by show 2 * 0 + _ ≤ _; exact Nat.le_of_eq rfl) (hb hby at_143) (fun _ _ => ⟨rfl, Kq151, (by decide : 2 + 0 ≤ _), (by decide : 15 + 0 ≤ _)⟩)
      dsimp only [Pt.U, Pt.locs, Pt.cells, Pt.slots] at X153 l153 y153 z153 st153 hQ153
      subst l153 y153 z153
      obtain ⟨rfl, Nq153, Kq153⟩ := hQ153
      replace NF := Fr.app NF Nq153
      clear Nq153
      refine WP.st st153 ?_
      clear st153
      replace Kq153 := Kq153.trans (rfl : h145 = h145)
      show WP p.tables e below _ T153 (mkF m 146 #[.val (.int p1), .val (.int p2), .val (.long q1), .second, .val (.long q2), .second, .val (.int (1 : Int32)), .val (.int (0 : Int32)), .val (.ref b127), .val (.int (1 : Int32)), .val (.int (1 : Int32)), .val (.int (1 : Int32)), .val (.int (1 : Int32)), .unset] [(.int (own_max (0 : Int32) p2)), (.int (own_max (0 : Int32) p2))])
      have bk154 : ∀ t, Steps p.tables e below (T153.setTop (mkF m 151 #[.val (.int p1), .val (.int p2), .val (.long q1), .second, .val (.long q2), .second, .val (.int (1 : Int32)), .val (.int (0 : Int32)), .val (.ref b127), .val (.int (1 : Int32)), .val (.int (1 : Int32)), .val (.int (1 : Int32)), .val (.int (1 : Int32)), .unset] [(.ref b127)])) t → Steps p.tables e below (T153.setTop (mkF m 146 #[.val (.int p1), .val (.int p2), .val (.long q1), .second, .val (.long q2), .second, .val (.int (1 : Int32)), .val (.int (0 : Int32)), .val (.ref b127), .val (.int (1 : Int32)), .val (.int (1 : Int32)), .val (.int (1 : Int32)), .val (.int (1 : Int32)), .unset] [(.int (own_max (0 : Int32) p2)), (.int (own_max (0 : Int32) p2))])) t := fun t k => by
        refine XS.icmpNo X153.here hx rfl (hb hby at_146) rfl (teq (rfl : (own_max (0 : Int32) p2) = (own_max (0 : Int32) p2))).2 ?_
        show Steps p.tables e below (T153.setTop (mkF m 149 #[.val (.int p1), .val (.int p2), .val (.long q1), .second, .val (.long q2), .second, .val (.int (1 : Int32)), .val (.int (0 : Int32)), .val (.ref b127), .val (.int (1 : Int32)), .val (.int (1 : Int32)), .val (.int (1 : Int32)), .val (.int (1 : Int32)), .unset] [])) t
        refine XS.aload X153.here hx rfl (hb hby at_149) rfl rfl ?_
        exact k
      refine WP.st bk154 ?_
      clear bk154
      obtain ⟨cq155, kq155, q155a, q155b, q155c⟩ := isOf hZ Kq153 E_b127
      obtain ⟨_, _, ⟨T155, L155, k155, n155⟩, -, X155, ⟨Lc155, hQ155, l155, y155, z155⟩, st155⟩ := X153.virtualBack hx (y := (⟨"com/example/skope/skope/xml/Intake", "passedOnDeclarations", "()J"⟩ : MethodName)) (z := (⟨"com/example/skope/skope/xml/Intake", "passedOnDeclarations", "()J"⟩ : MethodName)) hown (mvT hZ (hw _ (List.mem_of_getElem? (i := 76) rfl))) (mvT hZ (hw _ (List.mem_of_getElem? (i := 77) rfl))) (notFace_of_selects (args := #[]) (mvT hZ (hw _ (List.mem_of_getElem? (i := 79) rfl)))) (mvT hZ (hw _ (List.mem_of_getElem? (i := 79) rfl))) (mvT hZ (hw _ (List.mem_of_getElem? (i := 78) rfl))) (by decide) (backOf (W := 0) (rm11 l Z a0 hw [] b127 q1 h145 n0 Z0 F_b127_passedOnDeclarations) hZ (hw _ (List.mem_of_getElem? (i := 80) rfl)) (hw _ (List.mem_of_getElem? (i := 2) rfl)) (by decide) (by decide)) q155a q155c (g := (mkF m 151 #[.val (.int p1), .val (.int p2), .val (.long q1), .second, .val (.long q2), .second, .val (.int (1 : Int32)), .val (.int (0 : Int32)), .val (.ref b127), .val (.int (1 : Int32)), .val (.int (1 : Int32)), .val (.int (1 : Int32)), .val (.int (1 : Int32)), .unset] [(.ref b127)])) rfl (by rw [hml]; rfl) (Steps.refl _) (argsL := []) (rest := []) (lenOf pd_6 rfl) rfl (by show 2 * 0 + _ ≤ _; exact Nat.le_of_eq rfl) (hb hby at_151) (fun _ _ => ⟨rfl, Kq153, (by decide : 2 + 0 ≤ _), (by decide : 15 + 0 ≤ _)⟩)
      dsimp only [Pt.U, Pt.locs, Pt.cells, Pt.slots] at X155 l155 y155 z155 st155 hQ155
      subst l155 y155 z155
      obtain ⟨rfl, Nq155, Kq155⟩ := hQ155
      replace NF := Fr.app NF Nq155
      clear Nq155
      refine WP.tr st155 ?_
      clear st155
      replace Kq155 := Kq155.trans (rfl : h145 = h145)
      show WP p.tables e below _ T155 (mkF m 154 #[.val (.int p1), .val (.int p2), .val (.long q1), .second, .val (.long q2), .second, .val (.int (1 : Int32)), .val (.int (0 : Int32)), .val (.ref b127), .val (.int (1 : Int32)), .val (.int (1 : Int32)), .val (.int (1 : Int32)), .val (.int (1 : Int32)), .unset] [(.long q1)])
      have bk156 : ∀ t, Steps p.tables e below (T155.setTop (mkF m 161 #[.val (.int p1), .val (.int p2), .val (.long q1), .second, .val (.long q2), .second, .val (.int (1 : Int32)), .val (.int (0 : Int32)), .val (.ref b127), .val (.int (1 : Int32)), .val (.int (1 : Int32)), .val (.int (1 : Int32)), .val (.int (1 : Int32)), .unset] [(.ref b127)])) t → Steps p.tables e below (T155.setTop (mkF m 154 #[.val (.int p1), .val (.int p2), .val (.long q1), .second, .val (.long q2), .second, .val (.int (1 : Int32)), .val (.int (0 : Int32)), .val (.ref b127), .val (.int (1 : Int32)), .val (.int (1 : Int32)), .val (.int (1 : Int32)), .val (.int (1 : Int32)), .unset] [(.long q1)])) t := fun t k => by
        refine XS.lloadN X155.here hx rfl (hb hby at_154) rfl ?_
        show Steps p.tables e below (T155.setTop (mkF m 155 #[.val (.int p1), .val (.int p2), .val (.long q1), .second, .val (.long q2), .second, .val (.int (1 : Int32)), .val (.int (0 : Int32)), .val (.ref b127), .val (.int (1 : Int32)), .val (.int (1 : Int32)), .val (.int (1 : Int32)), .val (.int (1 : Int32)), .unset] [(.long q1), (.long q1)])) t
        refine XS.lcmp X155.here hx rfl (hb hby at_155) rfl ?_
        show Steps p.tables e below (T155.setTop (mkF m 156 #[.val (.int p1), .val (.int p2), .val (.long q1), .second, .val (.long q2), .second, .val (.int (1 : Int32)), .val (.int (0 : Int32)), .val (.ref b127), .val (.int (1 : Int32)), .val (.int (1 : Int32)), .val (.int (1 : Int32)), .val (.int (1 : Int32)), .unset] [(.int (lcmpW q1 q1))])) t
        refine XS.ifNo X155.here hx rfl (hb hby at_156) rfl ((if0 _ _).trans (teq ((lw_eq _ _).2 rfl)).2) ?_
        show Steps p.tables e below (T155.setTop (mkF m 159 #[.val (.int p1), .val (.int p2), .val (.long q1), .second, .val (.long q2), .second, .val (.int (1 : Int32)), .val (.int (0 : Int32)), .val (.ref b127), .val (.int (1 : Int32)), .val (.int (1 : Int32)), .val (.int (1 : Int32)), .val (.int (1 : Int32)), .unset] [])) t
        refine XS.aload X155.here hx rfl (hb hby at_159) rfl rfl ?_
        exact k
      refine WP.st bk156 ?_
      clear bk156
      obtain ⟨cq157, kq157, q157a, q157b, q157c⟩ := isOf hZ Kq155 E_b127
      obtain ⟨_, _, ⟨T157, L157, k157, n157⟩, -, X157, ⟨Lc157, hQ157, l157, y157, z157⟩, st157⟩ := X155.virtualBack hx (y := (⟨"com/example/skope/skope/xml/Intake", "passedOnChars", "()J"⟩ : MethodName)) (z := (⟨"com/example/skope/skope/xml/Intake", "passedOnChars", "()J"⟩ : MethodName)) hown (mvT hZ (hw _ (List.mem_of_getElem? (i := 81) rfl))) (mvT hZ (hw _ (List.mem_of_getElem? (i := 82) rfl))) (notFace_of_selects (args := #[]) (mvT hZ (hw _ (List.mem_of_getElem? (i := 84) rfl)))) (mvT hZ (hw _ (List.mem_of_getElem? (i := 84) rfl))) (mvT hZ (hw _ (List.mem_of_getElem? (i := 83) rfl))) (by decide) (backOf (W := 0) (rm12 l Z a0 hw [] b127 q2 h145 n0 Z0 F_b127_passedOnChars) hZ (hw _ (List.mem_of_getElem? (i := 85) rfl)) (hw _ (List.mem_of_getElem? (i := 2) rfl)) (by decide) (by decide)) q157a q157c (g := (mkF m 161 #[.val (.int p1), .val (.int p2), .val (.long q1), .second, .val (.long q2), .second, .val (.int (1 : Int32)), .val (.int (0 : Int32)), .val (.ref b127), .val (.int (1 : Int32)), .val (.int (1 : Int32)), .val (.int (1 : Int32)), .val (.int (1 : Int32)), .unset] [(.ref b127)])) rfl (by rw [hml]; rfl) (Steps.refl _) (argsL := []) (rest := []) (lenOf pd_6 rfl) rfl (by show 2 * 0 + _ ≤ _; exact Nat.le_of_eq rfl) (hb hby at_161) (fun _ _ => ⟨rfl, Kq155, (by decide : 2 + 0 ≤ _), (by decide : 15 + 0 ≤ _)⟩)
      dsimp only [Pt.U, Pt.locs, Pt.cells, Pt.slots] at X157 l157 y157 z157 st157 hQ157
      subst l157 y157 z157
      obtain ⟨rfl, Nq157, Kq157⟩ := hQ157
      replace NF := Fr.app NF Nq157
      clear Nq157
      refine WP.tr st157 ?_
      clear st157
      replace Kq157 := Kq157.trans (rfl : h145 = h145)
      show WP p.tables e below _ T157 (mkF m 164 #[.val (.int p1), .val (.int p2), .val (.long q1), .second, .val (.long q2), .second, .val (.int (1 : Int32)), .val (.int (0 : Int32)), .val (.ref b127), .val (.int (1 : Int32)), .val (.int (1 : Int32)), .val (.int (1 : Int32)), .val (.int (1 : Int32)), .unset] [(.long q2)])
      have bk158 : ∀ t, Steps p.tables e below (T157.setTop (mkF m 207 #[.val (.int p1), .val (.int p2), .val (.long q1), .second, .val (.long q2), .second, .val (.int (1 : Int32)), .val (.int (0 : Int32)), .val (.ref b127), .val (.int (1 : Int32)), .val (.int (1 : Int32)), .val (.int (1 : Int32)), .val (.int (1 : Int32)), .val (.int (1 : Int32))] [(.int (1 : Int32))])) t → Steps p.tables e below (T157.setTop (mkF m 164 #[.val (.int p1), .val (.int p2), .val (.long q1), .second, .val (.long q2), .second, .val (.int (1 : Int32)), .val (.int (0 : Int32)), .val (.ref b127), .val (.int (1 : Int32)), .val (.int (1 : Int32)), .val (.int (1 : Int32)), .val (.int (1 : Int32)), .unset] [(.long q2)])) t := fun t k => by
        refine XS.lload X157.here hx rfl (hb hby at_164) rfl ?_
        show Steps p.tables e below (T157.setTop (mkF m 166 #[.val (.int p1), .val (.int p2), .val (.long q1), .second, .val (.long q2), .second, .val (.int (1 : Int32)), .val (.int (0 : Int32)), .val (.ref b127), .val (.int (1 : Int32)), .val (.int (1 : Int32)), .val (.int (1 : Int32)), .val (.int (1 : Int32)), .unset] [(.long q2), (.long q2)])) t
        refine XS.lcmp X157.here hx rfl (hb hby at_166) rfl ?_
        show Steps p.tables e below (T157.setTop (mkF m 167 #[.val (.int p1), .val (.int p2), .val (.long q1), .second, .val (.long q2), .second, .val (.int (1 : Int32)), .val (.int (0 : Int32)), .val (.ref b127), .val (.int (1 : Int32)), .val (.int (1 : Int32)), .val (.int (1 : Int32)), .val (.int (1 : Int32)), .unset] [(.int (lcmpW q2 q2))])) t
        refine XS.ifNo X157.here hx rfl (hb hby at_167) rfl ((if0 _ _).trans (teq ((lw_eq _ _).2 rfl)).2) ?_
        show Steps p.tables e below (T157.setTop (mkF m 170 #[.val (.int p1), .val (.int p2), .val (.long q1), .second, .val (.long q2), .second, .val (.int (1 : Int32)), .val (.int (0 : Int32)), .val (.ref b127), .val (.int (1 : Int32)), .val (.int (1 : Int32)), .val (.int (1 : Int32)), .val (.int (1 : Int32)), .unset] [])) t
        refine XS.iconst X157.here hx rfl (hb hby at_170) ?_
        show Steps p.tables e below (T157.setTop (mkF m 171 #[.val (.int p1), .val (.int p2), .val (.long q1), .second, .val (.long q2), .second, .val (.int (1 : Int32)), .val (.int (0 : Int32)), .val (.ref b127), .val (.int (1 : Int32)), .val (.int (1 : Int32)), .val (.int (1 : Int32)), .val (.int (1 : Int32)), .unset] [(.int (1 : Int32))])) t
        refine XS.goto X157.here hx rfl (pc0 := 171) (pc' := 175) rfl (hb hby at_171) (by decide) (by decide) ?_
        show Steps p.tables e below (T157.setTop (mkF m 175 #[.val (.int p1), .val (.int p2), .val (.long q1), .second, .val (.long q2), .second, .val (.int (1 : Int32)), .val (.int (0 : Int32)), .val (.ref b127), .val (.int (1 : Int32)), .val (.int (1 : Int32)), .val (.int (1 : Int32)), .val (.int (1 : Int32)), .unset] [(.int (1 : Int32))])) t
        refine XS.istore X157.here hx rfl (hb hby at_175) rfl (l' := #[.val (.int p1), .val (.int p2), .val (.long q1), .second, .val (.long q2), .second, .val (.int (1 : Int32)), .val (.int (0 : Int32)), .val (.ref b127), .val (.int (1 : Int32)), .val (.int (1 : Int32)), .val (.int (1 : Int32)), .val (.int (1 : Int32)), .val (.int (1 : Int32))]) rfl ?_
        show Steps p.tables e below (T157.setTop (mkF m 177 #[.val (.int p1), .val (.int p2), .val (.long q1), .second, .val (.long q2), .second, .val (.int (1 : Int32)), .val (.int (0 : Int32)), .val (.ref b127), .val (.int (1 : Int32)), .val (.int (1 : Int32)), .val (.int (1 : Int32)), .val (.int (1 : Int32)), .val (.int (1 : Int32))] [])) t
        refine XS.iload X157.here hx rfl (hb hby at_177) rfl ?_
        show Steps p.tables e below (T157.setTop (mkF m 179 #[.val (.int p1), .val (.int p2), .val (.long q1), .second, .val (.long q2), .second, .val (.int (1 : Int32)), .val (.int (0 : Int32)), .val (.ref b127), .val (.int (1 : Int32)), .val (.int (1 : Int32)), .val (.int (1 : Int32)), .val (.int (1 : Int32)), .val (.int (1 : Int32))] [(.int (1 : Int32))])) t
        refine XS.ifNo X157.here hx rfl (hb hby at_179) rfl ((if0 _ _).trans (feq (by decide : ¬ ((1 : Int32) = (0 : Int32)))).1) ?_
        show Steps p.tables e below (T157.setTop (mkF m 182 #[.val (.int p1), .val (.int p2), .val (.long q1), .second, .val (.long q2), .second, .val (.int (1 : Int32)), .val (.int (0 : Int32)), .val (.ref b127), .val (.int (1 : Int32)), .val (.int (1 : Int32)), .val (.int (1 : Int32)), .val (.int (1 : Int32)), .val (.int (1 : Int32))] [])) t
        refine XS.iload X157.here hx rfl (hb hby at_182) rfl ?_
        show Steps p.tables e below (T157.setTop (mkF m 184 #[.val (.int p1), .val (.int p2), .val (.long q1), .second, .val (.long q2), .second, .val (.int (1 : Int32)), .val (.int (0 : Int32)), .val (.ref b127), .val (.int (1 : Int32)), .val (.int (1 : Int32)), .val (.int (1 : Int32)), .val (.int (1 : Int32)), .val (.int (1 : Int32))] [(.int (1 : Int32))])) t
        refine XS.ifNo X157.here hx rfl (hb hby at_184) rfl ((if0 _ _).trans (feq (by decide : ¬ ((1 : Int32) = (0 : Int32)))).1) ?_
        show Steps p.tables e below (T157.setTop (mkF m 187 #[.val (.int p1), .val (.int p2), .val (.long q1), .second, .val (.long q2), .second, .val (.int (1 : Int32)), .val (.int (0 : Int32)), .val (.ref b127), .val (.int (1 : Int32)), .val (.int (1 : Int32)), .val (.int (1 : Int32)), .val (.int (1 : Int32)), .val (.int (1 : Int32))] [])) t
        refine XS.iload X157.here hx rfl (hb hby at_187) rfl ?_
        show Steps p.tables e below (T157.setTop (mkF m 189 #[.val (.int p1), .val (.int p2), .val (.long q1), .second, .val (.long q2), .second, .val (.int (1 : Int32)), .val (.int (0 : Int32)), .val (.ref b127), .val (.int (1 : Int32)), .val (.int (1 : Int32)), .val (.int (1 : Int32)), .val (.int (1 : Int32)), .val (.int (1 : Int32))] [(.int (1 : Int32))])) t
        refine XS.ifNo X157.here hx rfl (hb hby at_189) rfl ((if0 _ _).trans (feq (by decide : ¬ ((1 : Int32) = (0 : Int32)))).1) ?_
        show Steps p.tables e below (T157.setTop (mkF m 192 #[.val (.int p1), .val (.int p2), .val (.long q1), .second, .val (.long q2), .second, .val (.int (1 : Int32)), .val (.int (0 : Int32)), .val (.ref b127), .val (.int (1 : Int32)), .val (.int (1 : Int32)), .val (.int (1 : Int32)), .val (.int (1 : Int32)), .val (.int (1 : Int32))] [])) t
        refine XS.iload X157.here hx rfl (hb hby at_192) rfl ?_
        show Steps p.tables e below (T157.setTop (mkF m 194 #[.val (.int p1), .val (.int p2), .val (.long q1), .second, .val (.long q2), .second, .val (.int (1 : Int32)), .val (.int (0 : Int32)), .val (.ref b127), .val (.int (1 : Int32)), .val (.int (1 : Int32)), .val (.int (1 : Int32)), .val (.int (1 : Int32)), .val (.int (1 : Int32))] [(.int (1 : Int32))])) t
        refine XS.ifNo X157.here hx rfl (hb hby at_194) rfl ((if0 _ _).trans (feq (by decide : ¬ ((1 : Int32) = (0 : Int32)))).1) ?_
        show Steps p.tables e below (T157.setTop (mkF m 197 #[.val (.int p1), .val (.int p2), .val (.long q1), .second, .val (.long q2), .second, .val (.int (1 : Int32)), .val (.int (0 : Int32)), .val (.ref b127), .val (.int (1 : Int32)), .val (.int (1 : Int32)), .val (.int (1 : Int32)), .val (.int (1 : Int32)), .val (.int (1 : Int32))] [])) t
        refine XS.iload X157.here hx rfl (hb hby at_197) rfl ?_
        show Steps p.tables e below (T157.setTop (mkF m 199 #[.val (.int p1), .val (.int p2), .val (.long q1), .second, .val (.long q2), .second, .val (.int (1 : Int32)), .val (.int (0 : Int32)), .val (.ref b127), .val (.int (1 : Int32)), .val (.int (1 : Int32)), .val (.int (1 : Int32)), .val (.int (1 : Int32)), .val (.int (1 : Int32))] [(.int (1 : Int32))])) t
        refine XS.ifNo X157.here hx rfl (hb hby at_199) rfl ((if0 _ _).trans (feq (by decide : ¬ ((1 : Int32) = (0 : Int32)))).1) ?_
        show Steps p.tables e below (T157.setTop (mkF m 202 #[.val (.int p1), .val (.int p2), .val (.long q1), .second, .val (.long q2), .second, .val (.int (1 : Int32)), .val (.int (0 : Int32)), .val (.ref b127), .val (.int (1 : Int32)), .val (.int (1 : Int32)), .val (.int (1 : Int32)), .val (.int (1 : Int32)), .val (.int (1 : Int32))] [])) t
        refine XS.iconst X157.here hx rfl (hb hby at_202) ?_
        show Steps p.tables e below (T157.setTop (mkF m 203 #[.val (.int p1), .val (.int p2), .val (.long q1), .second, .val (.long q2), .second, .val (.int (1 : Int32)), .val (.int (0 : Int32)), .val (.ref b127), .val (.int (1 : Int32)), .val (.int (1 : Int32)), .val (.int (1 : Int32)), .val (.int (1 : Int32)), .val (.int (1 : Int32))] [(.int (1 : Int32))])) t
        refine XS.goto X157.here hx rfl (pc0 := 203) (pc' := 207) rfl (hb hby at_203) (by decide) (by decide) ?_
        exact k
      refine WP.st bk158 ?_
      clear bk158
      subst hG
      obtain ⟨fs, hr, hrun, hended, hW, hsame⟩ := X157.leave (v := some (.int (1 : Int32))) (fun h => by rw [Bd.returns] at h; cases h)
      refine WP.fin ⟨_, _, ?_, hrun, hended, _, _, rfl, ?_, ⟨_, rfl⟩, hW, hsame.mono (by decide) (by decide)⟩
      · exact retN X157 hx (t := .boolean) Bd.returns (by simp) (hb hby at_207) hr
      · show Q0 Z p1 p2 q1 q2 h0 n0 _ T157.heap _
        rw [Kq157]
        exact ⟨rfl, NF⟩
    · skip
      have bk159 : ∀ t, Steps p.tables e below (s₁.setTop (mkF m 26 #[.val (.int p1), .val (.int p2), .val (.long q1), .second, .val (.long q2), .second, .val (.int (1 : Int32)), .val (.int (1 : Int32)), .unset, .unset, .unset, .unset, .unset, .unset] [])) t → Steps p.tables e below (s₁.setTop (mkF m 16 #[.val (.int p1), .val (.int p2), .val (.long q1), .second, .val (.long q2), .second, .val (.int (1 : Int32)), .unset, .unset, .unset, .unset, .unset, .unset, .unset] [(.int (p1 &&& (2 : Int32)))])) t := fun t k => by
        refine XS.ifNo X0.here hx rfl (hb hby at_16) rfl ((if0 _ _).trans (feq hc124).1) ?_
        show Steps p.tables e below (s₁.setTop (mkF m 19 #[.val (.int p1), .val (.int p2), .val (.long q1), .second, .val (.long q2), .second, .val (.int (1 : Int32)), .unset, .unset, .unset, .unset, .unset, .unset, .unset] [])) t
        refine XS.iconst X0.here hx rfl (hb hby at_19) ?_
        show Steps p.tables e below (s₁.setTop (mkF m 20 #[.val (.int p1), .val (.int p2), .val (.long q1), .second, .val (.long q2), .second, .val (.int (1 : Int32)), .unset, .unset, .unset, .unset, .unset, .unset, .unset] [(.int (1 : Int32))])) t
        refine XS.goto X0.here hx rfl (pc0 := 20) (pc' := 24) rfl (hb hby at_20) (by decide) (by decide) ?_
        show Steps p.tables e below (s₁.setTop (mkF m 24 #[.val (.int p1), .val (.int p2), .val (.long q1), .second, .val (.long q2), .second, .val (.int (1 : Int32)), .unset, .unset, .unset, .unset, .unset, .unset, .unset] [(.int (1 : Int32))])) t
        refine XS.istore X0.here hx rfl (hb hby at_24) rfl (l' := #[.val (.int p1), .val (.int p2), .val (.long q1), .second, .val (.long q2), .second, .val (.int (1 : Int32)), .val (.int (1 : Int32)), .unset, .unset, .unset, .unset, .unset, .unset]) rfl ?_
        exact k
      refine WP.st bk159 ?_
      clear bk159
      obtain ⟨T160, h160, X160, e160, E160, A160, D160, -, st160⟩ := newO X0 hx hZ hown (hw _ (List.mem_of_getElem? (i := 0) rfl)) (hw _ (List.mem_of_getElem? (i := 1) rfl)) (hw _ (List.mem_of_getElem? (i := 2) rfl)) e0 (g := (mkF m 26 #[.val (.int p1), .val (.int p2), .val (.long q1), .second, .val (.long q2), .second, .val (.int (1 : Int32)), .val (.int (1 : Int32)), .unset, .unset, .unset, .unset, .unset, .unset] [])) rfl (hb hby at_26) (by decide) (by decide)
      obtain ⟨b160, g160⟩ : ∃ z, z = h0.size := ⟨_, rfl⟩
      rw [← g160] at A160 D160 st160
      refine WP.st st160 ?_
      clear st160
      have g_b160 : n0 ≤ b160 := Nat.le_trans Z0 (Nat.le_of_eq g160.symm)
      replace Z0 := Nat.le_trans Z0 E160.1
      have E_b160 := A160
      have F_b160_longestValues : Fld Z h160 b160 "com/example/skope/skope/xml/Intake" "longestValues" "[I" .null := D160 (Or.inl (hw _ (List.mem_of_getElem? (i := 11) rfl))) (ty := (.array .int)) (by decide)
      have F_b160_dropsNames : Fld Z h160 b160 "com/example/skope/skope/xml/Intake" "dropsNames" "Z" (.int (0 : Int32)) := D160 (Or.inl (hw _ (List.mem_of_getElem? (i := 13) rfl))) (ty := .boolean) (by decide)
      have F_b160_nesting : Fld Z h160 b160 "com/example/skope/skope/xml/Intake" "nesting" "I" (.int (0 : Int32)) := D160 (Or.inl (hw _ (List.mem_of_getElem? (i := 25) rfl))) (ty := .int) (by decide)
      have F_b160_passedOnDeclarations : Fld Z h160 b160 "com/example/skope/skope/xml/Intake" "passedOnDeclarations" "J" (.long (0 : Int64)) := D160 (Or.inl (hw _ (List.mem_of_getElem? (i := 36) rfl))) (ty := .long) (by decide)
      have F_b160_passedOnChars : Fld Z h160 b160 "com/example/skope/skope/xml/Intake" "passedOnChars" "J" (.long (0 : Int64)) := D160 (Or.inl (hw _ (List.mem_of_getElem? (i := 38) rfl))) (ty := .long) (by decide)
      have F_b160_documentTypeDeclaration : Fld Z h160 b160 "com/example/skope/skope/xml/Intake" "documentTypeDeclaration" "Z" (.int (0 : Int32)) := D160 (Or.inl (hw _ (List.mem_of_getElem? (i := 50) rfl))) (ty := .boolean) (by decide)
      have F_b160_bytes : Fld Z h160 b160 "com/example/skope/skope/xml/Intake" "bytes" "J" (.long (0 : Int64)) := D160 (Or.inl (hw _ (List.mem_of_getElem? (i := 52) rfl))) (ty := .long) (by decide)
      have F_b160_stretch : Fld Z h160 b160 "com/example/skope/skope/xml/Intake" "stretch" "J" (.long (0 : Int64)) := D160 (Or.inl (hw _ (List.mem_of_getElem? (i := 54) rfl))) (ty := .long) (by decide)
      have F_b160_started : Fld Z h160 b160 "com/example/skope/skope/xml/Intake" "started" "Z" (.int (0 : Int32)) := D160 (Or.inl (hw _ (List.mem_of_getElem? (i := 56) rfl))) (ty := .boolean) (by decide)
      have F_b160_internalGeneralEntity : Fld Z h160 b160 "com/example/skope/skope/xml/Intake" "internalGeneralEntity" "Z" (.int (0 : Int32)) := D160 (Or.inl (hw _ (List.mem_of_getElem? (i := 58) rfl))) (ty := .boolean) (by decide)
      have F_b160_internalParameterEntity : Fld Z h160 b160 "com/example/skope/skope/xml/Intake" "internalParameterEntity" "Z" (.int (0 : Int32)) := D160 (Or.inl (hw _ (List.mem_of_getElem? (i := 60) rfl))) (ty := .boolean) (by decide)
      have F_b160_attributeList : Fld Z h160 b160 "com/example/skope/skope/xml/Intake" "attributeList" "Z" (.int (0 : Int32)) := D160 (Or.inl (hw _ (List.mem_of_getElem? (i := 62) rfl))) (ty := .boolean) (by decide)
      have F_b160_declaringBytes : Fld Z h160 b160 "com/example/skope/skope/xml/Intake" "declaringBytes" "J" (.long (0 : Int64)) := D160 (Or.inl (hw _ (List.mem_of_getElem? (i := 69) rfl))) (ty := .long) (by decide)
      clear D160 A160
      show WP p.tables e below _ T160 (mkF m 29 #[.val (.int p1), .val (.int p2), .val (.long q1), .second, .val (.long q2), .second, .val (.int (1 : Int32)), .val (.int (1 : Int32)), .unset, .unset, .unset, .unset, .unset, .unset] [(.ref b160)])
      have bk161 : ∀ t, Steps p.tables e below (T160.setTop (mkF m 30 #[.val (.int p1), .val (.int p2), .val (.long q1), .second, .val (.long q2), .second, .val (.int (1 : Int32)), .val (.int (1 : Int32)), .unset, .unset, .unset, .unset, .unset, .unset] [(.ref b160), (.ref b160)])) t → Steps p.tables e below (T160.setTop (mkF m 29 #[.val (.int p1), .val (.int p2), .val (.long q1), .second, .val (.long q2), .second, .val (.int (1 : Int32)), .val (.int (1 : Int32)), .unset, .unset, .unset, .unset, .unset, .unset] [(.ref b160)])) t := fun t k => by
        refine XS.dup X160.here hx rfl (hb hby at_29) rfl rfl ?_
        exact k
      refine WP.st bk161 ?_
      clear bk161
      obtain ⟨_, _, ⟨T162, L162, k162, n162⟩, -, X162, ⟨Lc162, hQ162, l162, y162, z162⟩, st162⟩ := X160.specialBack hx (y := (⟨"com/example/skope/skope/xml/Intake", "<init>", "()V"⟩ : MethodName)) rfl hown (mvT hZ (hw _ (List.mem_of_getElem? (i := 3) rfl))) (mvT hZ (hw _ (List.mem_of_getElem? (i := 4) rfl))) (mvT hZ (hw _ (List.mem_of_getElem? (i := 5) rfl))) (by decide) (backOf (W := 1) (rm1 l Z a0 hw [] b160 Value.null (0 : Int32) (0 : Int32) (0 : Int64) (0 : Int64) (0 : Int32) (0 : Int64) (0 : Int64) (0 : Int32) (0 : Int32) (0 : Int32) (0 : Int32) (0 : Int64) h160 n0 Z0 E_b160 g_b160 F_b160_longestValues F_b160_dropsNames F_b160_nesting F_b160_passedOnDeclarations F_b160_passedOnChars F_b160_documentTypeDeclaration F_b160_bytes F_b160_stretch F_b160_started F_b160_internalGeneralEntity F_b160_internalParameterEntity F_b160_attributeList F_b160_declaringBytes) hZ (hw _ (List.mem_of_getElem? (i := 5) rfl)) (hw _ (List.mem_of_getElem? (i := 2) rfl)) (by decide) (by decide)) (g := (mkF m 30 #[.val (.int p1), .val (.int p2), .val (.long q1), .second, .val (.long q2), .second, .val (.int (1 : Int32)), .val (.int (1 : Int32)), .unset, .unset, .unset, .unset, .unset, .unset] [(.ref b160), (.ref b160)])) rfl (by rw [hml]; rfl) (Steps.refl _) (a := b160) (argsL := []) (rest := [(.ref b160)]) (lenOf pd_1 rfl) rfl (by show 2 * 0 + _ ≤ _; exact Nat.le_of_eq rfl) (hb hby at_30) (fun _ _ => ⟨rfl, e160, (by decide : 1 + 1 ≤ _), (by decide : 15 + 0 ≤ _)⟩)
      dsimp only [Pt.U, Pt.locs, Pt.cells, Pt.slots] at X162 l162 y162 z162 st162 hQ162
      subst l162 y162 z162
      obtain ⟨rfl, Nq162, Kq162, nF162_b160_dropsNames, nF162_b160_nesting, nF162_b160_passedOnDeclarations, nF162_b160_passedOnChars, nF162_b160_documentTypeDeclaration, nF162_b160_bytes, nF162_b160_stretch, nF162_b160_started, nF162_b160_internalGeneralEntity, nF162_b160_internalParameterEntity, nF162_b160_attributeList, nF162_b160_declaringBytes⟩ := hQ162
      replace NF := Fr.app NF Nq162
      clear Nq162
      refine WP.tr st162 ?_
      clear st162
      obtain ⟨h162, e162⟩ : ∃ h, T162.heap = h := ⟨_, rfl⟩
      rw [e162] at Kq162 nF162_b160_dropsNames nF162_b160_nesting nF162_b160_passedOnDeclarations nF162_b160_passedOnChars nF162_b160_documentTypeDeclaration nF162_b160_bytes nF162_b160_stretch nF162_b160_started nF162_b160_internalGeneralEntity nF162_b160_internalParameterEntity nF162_b160_attributeList nF162_b160_declaringBytes
      replace E_b160 := E_b160.keep Kq162
      clear F_b160_longestValues
      clear F_b160_dropsNames
      clear F_b160_nesting
      clear F_b160_passedOnDeclarations
      clear F_b160_passedOnChars
      clear F_b160_documentTypeDeclaration
      clear F_b160_bytes
      clear F_b160_stretch
      clear F_b160_started
      clear F_b160_internalGeneralEntity
      clear F_b160_internalParameterEntity
      clear F_b160_attributeList
      clear F_b160_declaringBytes
      replace Z0 := Nat.le_trans Z0 Kq162.1
      clear Kq162
      have F_b160_dropsNames := nF162_b160_dropsNames
      clear nF162_b160_dropsNames
      have F_b160_nesting := nF162_b160_nesting
      clear nF162_b160_nesting
      have F_b160_passedOnDeclarations := nF162_b160_passedOnDeclarations
      clear nF162_b160_passedOnDeclarations
      have F_b160_passedOnChars := nF162_b160_passedOnChars
      clear nF162_b160_passedOnChars
      have F_b160_documentTypeDeclaration := nF162_b160_documentTypeDeclaration
      clear nF162_b160_documentTypeDeclaration
      have F_b160_bytes := nF162_b160_bytes
      clear nF162_b160_bytes
      have F_b160_stretch := nF162_b160_stretch
      clear nF162_b160_stretch
      have F_b160_started := nF162_b160_started
      clear nF162_b160_started
      have F_b160_internalGeneralEntity := nF162_b160_internalGeneralEntity
      clear nF162_b160_internalGeneralEntity
      have F_b160_internalParameterEntity := nF162_b160_internalParameterEntity
      clear nF162_b160_internalParameterEntity
      have F_b160_attributeList := nF162_b160_attributeList
      clear nF162_b160_attributeList
      have F_b160_declaringBytes := nF162_b160_declaringBytes
      clear nF162_b160_declaringBytes
      show WP p.tables e below _ T162 (mkF m 33 #[.val (.int p1), .val (.int p2), .val (.long q1), .second, .val (.long q2), .second, .val (.int (1 : Int32)), .val (.int (1 : Int32)), .unset, .unset, .unset, .unset, .unset, .unset] [(.ref b160)])
      have bk163 : ∀ t, Steps p.tables e below (T162.setTop (mkF m 37 #[.val (.int p1), .val (.int p2), .val (.long q1), .second, .val (.long q2), .second, .val (.int (1 : Int32)), .val (.int (1 : Int32)), .val (.ref b160), .unset, .unset, .unset, .unset, .unset] [(.ref b160)])) t → Steps p.tables e below (T162.setTop (mkF m 33 #[.val (.int p1), .val (.int p2), .val (.long q1), .second, .val (.long q2), .second, .val (.int (1 : Int32)), .val (.int (1 : Int32)), .unset, .unset, .unset, .unset, .unset, .unset] [(.ref b160)])) t := fun t k => by
        refine XS.astore X162.here hx rfl (hb hby at_33) rfl rfl (l' := #[.val (.int p1), .val (.int p2), .val (.long q1), .second, .val (.long q2), .second, .val (.int (1 : Int32)), .val (.int (1 : Int32)), .val (.ref b160), .unset, .unset, .unset, .unset, .unset]) rfl ?_
        show Steps p.tables e below (T162.setTop (mkF m 35 #[.val (.int p1), .val (.int p2), .val (.long q1), .second, .val (.long q2), .second, .val (.int (1 : Int32)), .val (.int (1 : Int32)), .val (.ref b160), .unset, .unset, .unset, .unset, .unset] [])) t
        refine XS.aload X162.here hx rfl (hb hby at_35) rfl rfl ?_
        exact k
      refine WP.st bk163 ?_
      clear bk163
      obtain ⟨cq164, kq164, q164a, q164b, q164c⟩ := isOf hZ e162 E_b160
      obtain ⟨_, _, ⟨T164, L164, k164, n164⟩, -, X164, ⟨Lc164, hQ164, l164, y164, z164⟩, st164⟩ := X162.virtualBack hx (y := (⟨"com/example/skope/skope/xml/Intake", "dropsNames", "()Z"⟩ : MethodName)) (z := (⟨"com/example/skope/skope/xml/Intake", "dropsNames", "()Z"⟩ : MethodName)) hown (mvT hZ (hw _ (List.mem_of_getElem? (i := 14) rfl))) (mvT hZ (hw _ (List.mem_of_getElem? (i := 15) rfl))) (notFace_of_selects (args := #[]) (mvT hZ (hw _ (List.mem_of_getElem? (i := 17) rfl)))) (mvT hZ (hw _ (List.mem_of_getElem? (i := 17) rfl))) (mvT hZ (hw _ (List.mem_of_getElem? (i := 16) rfl))) (by decide) (backOf (W := 0) (rm3 l Z a0 hw [] b160 (1 : Int32) h162 n0 Z0 F_b160_dropsNames) hZ (hw _ (List.mem_of_getElem? (i := 18) rfl)) (hw _ (List.mem_of_getElem? (i := 2) rfl)) (by decide) (by decide)) q164a q164c (g := (mkF m 37 #[.val (.int p1), .val (.int p2), .val (.long q1), .second, .val (.long q2), .second, .val (.int (1 : Int32)), .val (.int (1 : Int32)), .val (.ref b160), .unset, .unset, .unset, .unset, .unset] [(.ref b160)])) rfl (by rw [hml]; rfl) (Steps.refl _) (argsL := []) (rest := []) (lenOf pd_2 rfl) rfl (by show 2 * 0 + _ ≤ _; exact Nat.le_of_eq rfl) (hb hby at_37) (fun _ _ => ⟨rfl, e162, (by decide : 2 + 0 ≤ _), (by decide : 15 + 0 ≤ _)⟩)
      dsimp only [Pt.U, Pt.locs, Pt.cells, Pt.slots] at X164 l164 y164 z164 st164 hQ164
      subst l164 y164 z164
      obtain ⟨rfl, Nq164, Kq164⟩ := hQ164
      replace NF := Fr.app NF Nq164
      clear Nq164
      refine WP.tr st164 ?_
      clear st164
      replace Kq164 := Kq164.trans (rfl : h162 = h162)
      show WP p.tables e below _ T164 (mkF m 40 #[.val (.int p1), .val (.int p2), .val (.long q1), .second, .val (.long q2), .second, .val (.int (1 : Int32)), .val (.int (1 : Int32)), .val (.ref b160), .unset, .unset, .unset, .unset, .unset] [(.int (nar .boolean (1 : Int32)))])
      rw [show (nar .boolean (1 : Int32)) = (1 : Int32) from by decide]
      show WP p.tables e below _ T164 (mkF m 40 #[.val (.int p1), .val (.int p2), .val (.long q1), .second, .val (.long q2), .second, .val (.int (1 : Int32)), .val (.int (1 : Int32)), .val (.ref b160), .unset, .unset, .unset, .unset, .unset] [(.int (1 : Int32))])
      have bk165 : ∀ t, Steps p.tables e below (T164.setTop (mkF m 45 #[.val (.int p1), .val (.int p2), .val (.long q1), .second, .val (.long q2), .second, .val (.int (1 : Int32)), .val (.int (1 : Int32)), .val (.ref b160), .val (.int (1 : Int32)), .unset, .unset, .unset, .unset] [(.int p2), (.ref b160)])) t → Steps p.tables e below (T164.setTop (mkF m 40 #[.val (.int p1), .val (.int p2), .val (.long q1), .second, .val (.long q2), .second, .val (.int (1 : Int32)), .val (.int (1 : Int32)), .val (.ref b160), .unset, .unset, .unset, .unset, .unset] [(.int (1 : Int32))])) t := fun t k => by
        refine XS.istore X164.here hx rfl (hb hby at_40) rfl (l' := #[.val (.int p1), .val (.int p2), .val (.long q1), .second, .val (.long q2), .second, .val (.int (1 : Int32)), .val (.int (1 : Int32)), .val (.ref b160), .val (.int (1 : Int32)), .unset, .unset, .unset, .unset]) rfl ?_
        show Steps p.tables e below (T164.setTop (mkF m 42 #[.val (.int p1), .val (.int p2), .val (.long q1), .second, .val (.long q2), .second, .val (.int (1 : Int32)), .val (.int (1 : Int32)), .val (.ref b160), .val (.int (1 : Int32)), .unset, .unset, .unset, .unset] [])) t
        refine XS.aload X164.here hx rfl (hb hby at_42) rfl rfl ?_
        show Steps p.tables e below (T164.setTop (mkF m 44 #[.val (.int p1), .val (.int p2), .val (.long q1), .second, .val (.long q2), .second, .val (.int (1 : Int32)), .val (.int (1 : Int32)), .val (.ref b160), .val (.int (1 : Int32)), .unset, .unset, .unset, .unset] [(.ref b160)])) t
        refine XS.iloadN X164.here hx rfl (hb hby at_44) rfl ?_
        exact k
      refine WP.st bk165 ?_
      clear bk165
      obtain ⟨cq166, kq166, q166a, q166b, q166c⟩ := isOf hZ Kq164 E_b160
      obtain ⟨_, _, ⟨T166, L166, k166, n166⟩, -, X166, ⟨Lc166, hQ166, l166, y166, z166⟩, st166⟩ := X164.virtualBack hx (y := (⟨"com/example/skope/skope/xml/Intake", "addNesting", "(I)V"⟩ : MethodName)) (z := (⟨"com/example/skope/skope/xml/Intake", "addNesting", "(I)V"⟩ : MethodName)) hown (mvT hZ (hw _ (List.mem_of_getElem? (i := 19) rfl))) (mvT hZ (hw _ (List.mem_of_getElem? (i := 20) rfl))) (notFace_of_selects (args := #[]) (mvT hZ (hw _ (List.mem_of_getElem? (i := 22) rfl)))) (mvT hZ (hw _ (List.mem_of_getElem? (i := 22) rfl))) (mvT hZ (hw _ (List.mem_of_getElem? (i := 21) rfl))) (by decide) (backOf (W := 0) (rm4 l Z a0 hw [] b160 p2 (1 : Int32) (0 : Int32) (0 : Int64) (0 : Int64) (0 : Int32) (0 : Int64) (0 : Int64) (0 : Int32) (0 : Int32) (0 : Int32) (0 : Int32) (0 : Int64) h162 n0 Z0 E_b160 g_b160 F_b160_dropsNames F_b160_nesting F_b160_passedOnDeclarations F_b160_passedOnChars F_b160_documentTypeDeclaration F_b160_bytes F_b160_stretch F_b160_started F_b160_internalGeneralEntity F_b160_internalParameterEntity F_b160_attributeList F_b160_declaringBytes) hZ (hw _ (List.mem_of_getElem? (i := 23) rfl)) (hw _ (List.mem_of_getElem? (i := 2) rfl)) (by decide) (by decide)) q166a q166c (g := (mkF m 45 #[.val (.int p1), .val (.int p2), .val (.long q1), .second, .val (.long q2), .second, .val (.int (1 : Int32)), .val (.int (1 : Int32)), .val (.ref b160), .val (.int (1 : Int32)), .unset, .unset, .unset, .unset] [(.int p2), (.ref b160)])) rfl (by rw [hml]; rfl) (Steps.refl _) (argsL := [(.int p2)]) (rest := []) (lenOf pd_3 rfl) rfl (by show 2 * 0 + _ ≤ _; exact Nat.le_of_eq rfl) (hb hby at_45) (fun _ _ => ⟨rfl, Kq164, (by decide : 2 + 0 ≤ _), (by decide : 15 + 0 ≤ _)⟩)
      dsimp only [Pt.U, Pt.locs, Pt.cells, Pt.slots] at X166 l166 y166 z166 st166 hQ166
      subst l166 y166 z166
      obtain ⟨rfl, Nq166, Kq166, nF166_b160_dropsNames, nF166_b160_nesting, nF166_b160_passedOnDeclarations, nF166_b160_passedOnChars, nF166_b160_documentTypeDeclaration, nF166_b160_bytes, nF166_b160_stretch, nF166_b160_started, nF166_b160_internalGeneralEntity, nF166_b160_internalParameterEntity, nF166_b160_attributeList, nF166_b160_declaringBytes⟩ := hQ166
      replace NF := Fr.app NF Nq166
      clear Nq166
      refine WP.tr st166 ?_
      clear st166
      obtain ⟨h166, e166⟩ : ∃ h, T166.heap = h := ⟨_, rfl⟩
      rw [e166] at Kq166 nF166_b160_dropsNames nF166_b160_nesting nF166_b160_passedOnDeclarations nF166_b160_passedOnChars nF166_b160_documentTypeDeclaration nF166_b160_bytes nF166_b160_stretch nF166_b160_started nF166_b160_internalGeneralEntity nF166_b160_internalParameterEntity nF166_b160_attributeList nF166_b160_declaringBytes
      replace E_b160 := E_b160.keep Kq166
      clear F_b160_dropsNames
      clear F_b160_nesting
      clear F_b160_passedOnDeclarations
      clear F_b160_passedOnChars
      clear F_b160_documentTypeDeclaration
      clear F_b160_bytes
      clear F_b160_stretch
      clear F_b160_started
      clear F_b160_internalGeneralEntity
      clear F_b160_internalParameterEntity
      clear F_b160_attributeList
      clear F_b160_declaringBytes
      replace Z0 := Nat.le_trans Z0 Kq166.1
      clear Kq166
      have F_b160_dropsNames := nF166_b160_dropsNames
      clear nF166_b160_dropsNames
      have F_b160_nesting := nF166_b160_nesting
      clear nF166_b160_nesting
      have F_b160_passedOnDeclarations := nF166_b160_passedOnDeclarations
      clear nF166_b160_passedOnDeclarations
      have F_b160_passedOnChars := nF166_b160_passedOnChars
      clear nF166_b160_passedOnChars
      have F_b160_documentTypeDeclaration := nF166_b160_documentTypeDeclaration
      clear nF166_b160_documentTypeDeclaration
      have F_b160_bytes := nF166_b160_bytes
      clear nF166_b160_bytes
      have F_b160_stretch := nF166_b160_stretch
      clear nF166_b160_stretch
      have F_b160_started := nF166_b160_started
      clear nF166_b160_started
      have F_b160_internalGeneralEntity := nF166_b160_internalGeneralEntity
      clear nF166_b160_internalGeneralEntity
      have F_b160_internalParameterEntity := nF166_b160_internalParameterEntity
      clear nF166_b160_internalParameterEntity
      have F_b160_attributeList := nF166_b160_attributeList
      clear nF166_b160_attributeList
      have F_b160_declaringBytes := nF166_b160_declaringBytes
      clear nF166_b160_declaringBytes
      show WP p.tables e below _ T166 (mkF m 48 #[.val (.int p1), .val (.int p2), .val (.long q1), .second, .val (.long q2), .second, .val (.int (1 : Int32)), .val (.int (1 : Int32)), .val (.ref b160), .val (.int (1 : Int32)), .unset, .unset, .unset, .unset] [])
      have bk167 : ∀ t, Steps p.tables e below (T166.setTop (mkF m 53 #[.val (.int p1), .val (.int p2), .val (.long q1), .second, .val (.long q2), .second, .val (.int (1 : Int32)), .val (.int (1 : Int32)), .val (.ref b160), .val (.int (1 : Int32)), .unset, .unset, .unset, .unset] [(.long q2), (.long q1), (.ref b160)])) t → Steps p.tables e below (T166.setTop (mkF m 48 #[.val (.int p1), .val (.int p2), .val (.long q1), .second, .val (.long q2), .second, .val (.int (1 : Int32)), .val (.int (1 : Int32)), .val (.ref b160), .val (.int (1 : Int32)), .unset, .unset, .unset, .unset] [])) t := fun t k => by
        refine XS.aload X166.here hx rfl (hb hby at_48) rfl rfl ?_
        show Steps p.tables e below (T166.setTop (mkF m 50 #[.val (.int p1), .val (.int p2), .val (.long q1), .second, .val (.long q2), .second, .val (.int (1 : Int32)), .val (.int (1 : Int32)), .val (.ref b160), .val (.int (1 : Int32)), .unset, .unset, .unset, .unset] [(.ref b160)])) t
        refine XS.lloadN X166.here hx rfl (hb hby at_50) rfl ?_
        show Steps p.tables e below (T166.setTop (mkF m 51 #[.val (.int p1), .val (.int p2), .val (.long q1), .second, .val (.long q2), .second, .val (.int (1 : Int32)), .val (.int (1 : Int32)), .val (.ref b160), .val (.int (1 : Int32)), .unset, .unset, .unset, .unset] [(.long q1), (.ref b160)])) t
        refine XS.lload X166.here hx rfl (hb hby at_51) rfl ?_
        exact k
      refine WP.st bk167 ?_
      clear bk167
      obtain ⟨cq168, kq168, q168a, q168b, q168c⟩ := isOf hZ e166 E_b160
      obtain ⟨_, _, ⟨T168, L168, k168, n168⟩, -, X168, ⟨Lc168, hQ168, l168, y168, z168⟩, st168⟩ := X166.virtualBack hx (y := (⟨"com/example/skope/skope/xml/Intake", "passOn", "(JJ)V"⟩ : MethodName)) (z := (⟨"com/example/skope/skope/xml/Intake", "passOn", "(JJ)V"⟩ : MethodName)) hown (mvT hZ (hw _ (List.mem_of_getElem? (i := 30) rfl))) (mvT hZ (hw _ (List.mem_of_getElem? (i := 31) rfl))) (notFace_of_selects (args := #[]) (mvT hZ (hw _ (List.mem_of_getElem? (i := 33) rfl)))) (mvT hZ (hw _ (List.mem_of_getElem? (i := 33) rfl))) (mvT hZ (hw _ (List.mem_of_getElem? (i := 32) rfl))) (by decide) (backOf (W := 0) (rm6 l Z a0 hw [] b160 q1 q2 (1 : Int32) (own_max (0 : Int32) p2) (0 : Int64) (0 : Int64) (0 : Int32) (0 : Int64) (0 : Int64) (0 : Int32) (0 : Int32) (0 : Int32) (0 : Int32) (0 : Int64) h166 n0 Z0 E_b160 g_b160 F_b160_dropsNames F_b160_nesting F_b160_passedOnDeclarations F_b160_passedOnChars F_b160_documentTypeDeclaration F_b160_bytes F_b160_stretch F_b160_started F_b160_internalGeneralEntity F_b160_internalParameterEntity F_b160_attributeList F_b160_declaringBytes) hZ (hw _ (List.mem_of_getElem? (i := 34) rfl)) (hw _ (List.mem_of_getElem? (i := 2) rfl)) (by decide) (by decide)) q168a q168c (g := (mkF m 53 #[.val (.int p1), .val (.int p2), .val (.long q1), .second, .val (.long q2), .second, .val (.int (1 : Int32)), .val (.int (1 : Int32)), .val (.ref b160), .val (.int (1 : Int32)), .unset, .unset, .unset, .unset] [(.long q2), (.long q1), (.ref b160)])) rfl (by rw [hml]; rfl) (Steps.refl _) (argsL := [(.long q1), (.long q2)]) (rest := []) (lenOf pd_4 rfl) rfl (by show 2 * 0 + _ ≤ _; exact Nat.le_of_eq rfl) (hb hby at_53) (fun _ _ => ⟨rfl, e166, (by decide : 2 + 0 ≤ _), (by decide : 15 + 0 ≤ _)⟩)
      dsimp only [Pt.U, Pt.locs, Pt.cells, Pt.slots] at X168 l168 y168 z168 st168 hQ168
      subst l168 y168 z168
      obtain ⟨rfl, Nq168, Kq168, nF168_b160_dropsNames, nF168_b160_nesting, nF168_b160_passedOnDeclarations, nF168_b160_passedOnChars, nF168_b160_documentTypeDeclaration, nF168_b160_bytes, nF168_b160_stretch, nF168_b160_started, nF168_b160_internalGeneralEntity, nF168_b160_internalParameterEntity, nF168_b160_attributeList, nF168_b160_declaringBytes⟩ := hQ168
      replace NF := Fr.app NF Nq168
      clear Nq168
      refine WP.tr st168 ?_
      clear st168
      obtain ⟨h168, e168⟩ : ∃ h, T168.heap = h := ⟨_, rfl⟩
      rw [e168] at Kq168 nF168_b160_dropsNames nF168_b160_nesting nF168_b160_passedOnDeclarations nF168_b160_passedOnChars nF168_b160_documentTypeDeclaration nF168_b160_bytes nF168_b160_stretch nF168_b160_started nF168_b160_internalGeneralEntity nF168_b160_internalParameterEntity nF168_b160_attributeList nF168_b160_declaringBytes
      replace E_b160 := E_b160.keep Kq168
      clear F_b160_dropsNames
      clear F_b160_nesting
      clear F_b160_passedOnDeclarations
      clear F_b160_passedOnChars
      clear F_b160_documentTypeDeclaration
      clear F_b160_bytes
      clear F_b160_stretch
      clear F_b160_started
      clear F_b160_internalGeneralEntity
      clear F_b160_internalParameterEntity
      clear F_b160_attributeList
      clear F_b160_declaringBytes
      replace Z0 := Nat.le_trans Z0 Kq168.1
      clear Kq168
      have F_b160_dropsNames := nF168_b160_dropsNames
      clear nF168_b160_dropsNames
      have F_b160_nesting := nF168_b160_nesting
      clear nF168_b160_nesting
      have F_b160_passedOnDeclarations := nF168_b160_passedOnDeclarations
      clear nF168_b160_passedOnDeclarations
      have F_b160_passedOnChars := nF168_b160_passedOnChars
      clear nF168_b160_passedOnChars
      have F_b160_documentTypeDeclaration := nF168_b160_documentTypeDeclaration
      clear nF168_b160_documentTypeDeclaration
      have F_b160_bytes := nF168_b160_bytes
      clear nF168_b160_bytes
      have F_b160_stretch := nF168_b160_stretch
      clear nF168_b160_stretch
      have F_b160_started := nF168_b160_started
      clear nF168_b160_started
      have F_b160_internalGeneralEntity := nF168_b160_internalGeneralEntity
      clear nF168_b160_internalGeneralEntity
      have F_b160_internalParameterEntity := nF168_b160_internalParameterEntity
      clear nF168_b160_internalParameterEntity
      have F_b160_attributeList := nF168_b160_attributeList
      clear nF168_b160_attributeList
      have F_b160_declaringBytes := nF168_b160_declaringBytes
      clear nF168_b160_declaringBytes
      show WP p.tables e below _ T168 (mkF m 56 #[.val (.int p1), .val (.int p2), .val (.long q1), .second, .val (.long q2), .second, .val (.int (1 : Int32)), .val (.int (1 : Int32)), .val (.ref b160), .val (.int (1 : Int32)), .unset, .unset, .unset, .unset] [])
      have bk169 : ∀ t, Steps p.tables e below (T168.setTop (mkF m 60 #[.val (.int p1), .val (.int p2), .val (.long q1), .second, .val (.long q2), .second, .val (.int (1 : Int32)), .val (.int (1 : Int32)), .val (.ref b160), .val (.int (1 : Int32)), .unset, .unset, .unset, .unset] [(.int (1 : Int32)), (.ref b160)])) t → Steps p.tables e below (T168.setTop (mkF m 56 #[.val (.int p1), .val (.int p2), .val (.long q1), .second, .val (.long q2), .second, .val (.int (1 : Int32)), .val (.int (1 : Int32)), .val (.ref b160), .val (.int (1 : Int32)), .unset, .unset, .unset, .unset] [])) t := fun t k => by
        refine XS.aload X168.here hx rfl (hb hby at_56) rfl rfl ?_
        show Steps p.tables e below (T168.setTop (mkF m 58 #[.val (.int p1), .val (.int p2), .val (.long q1), .second, .val (.long q2), .second, .val (.int (1 : Int32)), .val (.int (1 : Int32)), .val (.ref b160), .val (.int (1 : Int32)), .unset, .unset, .unset, .unset] [(.ref b160)])) t
        refine XS.iload X168.here hx rfl (hb hby at_58) rfl ?_
        exact k
      refine WP.st bk169 ?_
      clear bk169
      obtain ⟨cq170, kq170, q170a, q170b, q170c⟩ := isOf hZ e168 E_b160
      obtain ⟨_, _, ⟨T170, L170, k170, n170⟩, -, X170, ⟨Lc170, hQ170, l170, y170, z170⟩, st170⟩ := X168.virtualBack hx (y := (⟨"com/example/skope/skope/xml/Intake", "dropNames", "(Z)V"⟩ : MethodName)) (z := (⟨"com/example/skope/skope/xml/Intake", "dropNames", "(Z)V"⟩ : MethodName)) hown (mvT hZ (hw _ (List.mem_of_getElem? (i := 39) rfl))) (mvT hZ (hw _ (List.mem_of_getElem? (i := 40) rfl))) (notFace_of_selects (args := #[]) (mvT hZ (hw _ (List.mem_of_getElem? (i := 42) rfl)))) (mvT hZ (hw _ (List.mem_of_getElem? (i := 42) rfl))) (mvT hZ (hw _ (List.mem_of_getElem? (i := 41) rfl))) (by decide) (backOf (W := 0) (rm7 l Z a0 hw [] b160 (1 : Int32) (1 : Int32) (own_max (0 : Int32) p2) q1 q2 (0 : Int32) (0 : Int64) (0 : Int64) (0 : Int32) (0 : Int32) (0 : Int32) (0 : Int32) (0 : Int64) h168 n0 Z0 E_b160 g_b160 F_b160_dropsNames F_b160_nesting F_b160_passedOnDeclarations F_b160_passedOnChars F_b160_documentTypeDeclaration F_b160_bytes F_b160_stretch F_b160_started F_b160_internalGeneralEntity F_b160_internalParameterEntity F_b160_attributeList F_b160_declaringBytes (by decide : (1 : Int32) = 0 ∨ (1 : Int32) = 1)) hZ (hw _ (List.mem_of_getElem? (i := 43) rfl)) (hw _ (List.mem_of_getElem? (i := 2) rfl)) (by decide) (by decide)) q170a q170c (g := (mkF m 60 #[.val (.int p1), .val (.int p2), .val (.long q1), .second, .val (.long q2), .second, .val (.int (1 : Int32)), .val (.int (1 : Int32)), .val (.ref b160), .val (.int (1 : Int32)), .unset, .unset, .unset, .unset] [(.int (1 : Int32)), (.ref b160)])) rfl (by rw [hml]; rfl) (Steps.refl _) (argsL := [(.int (1 : Int32))]) (rest := []) (lenOf pd_5 rfl) rfl (by show 2 * 0 + _ ≤ _; exact Nat.le_of_eq rfl) (hb hby at_60) (fun _ _ => ⟨rfl, e168, (by decide : 2 + 0 ≤ _), (by decide : 15 + 0 ≤ _)⟩)
      dsimp only [Pt.U, Pt.locs, Pt.cells, Pt.slots] at X170 l170 y170 z170 st170 hQ170
      subst l170 y170 z170
      obtain ⟨rfl, Nq170, Kq170, nF170_b160_dropsNames, nF170_b160_nesting, nF170_b160_passedOnDeclarations, nF170_b160_passedOnChars, nF170_b160_documentTypeDeclaration, nF170_b160_bytes, nF170_b160_stretch, nF170_b160_started, nF170_b160_internalGeneralEntity, nF170_b160_internalParameterEntity, nF170_b160_attributeList, nF170_b160_declaringBytes⟩ := hQ170
      replace NF := Fr.app NF Nq170
      clear Nq170
      refine WP.tr st170 ?_
      clear st170
      obtain ⟨h170, e170⟩ : ∃ h, T170.heap = h := ⟨_, rfl⟩
      rw [e170] at Kq170 nF170_b160_dropsNames nF170_b160_nesting nF170_b160_passedOnDeclarations nF170_b160_passedOnChars nF170_b160_documentTypeDeclaration nF170_b160_bytes nF170_b160_stretch nF170_b160_started nF170_b160_internalGeneralEntity nF170_b160_internalParameterEntity nF170_b160_attributeList nF170_b160_declaringBytes
      replace E_b160 := E_b160.keep Kq170
      clear F_b160_dropsNames
      clear F_b160_nesting
      clear F_b160_passedOnDeclarations
      clear F_b160_passedOnChars
      clear F_b160_documentTypeDeclaration
      clear F_b160_bytes
      clear F_b160_stretch
      clear F_b160_started
      clear F_b160_internalGeneralEntity
      clear F_b160_internalParameterEntity
      clear F_b160_attributeList
      clear F_b160_declaringBytes
      replace Z0 := Nat.le_trans Z0 Kq170.1
      clear Kq170
      have F_b160_dropsNames := nF170_b160_dropsNames
      clear nF170_b160_dropsNames
      have F_b160_nesting := nF170_b160_nesting
      clear nF170_b160_nesting
      have F_b160_passedOnDeclarations := nF170_b160_passedOnDeclarations
      clear nF170_b160_passedOnDeclarations
      have F_b160_passedOnChars := nF170_b160_passedOnChars
      clear nF170_b160_passedOnChars
      have F_b160_documentTypeDeclaration := nF170_b160_documentTypeDeclaration
      clear nF170_b160_documentTypeDeclaration
      have F_b160_bytes := nF170_b160_bytes
      clear nF170_b160_bytes
      have F_b160_stretch := nF170_b160_stretch
      clear nF170_b160_stretch
      have F_b160_started := nF170_b160_started
      clear nF170_b160_started
      have F_b160_internalGeneralEntity := nF170_b160_internalGeneralEntity
      clear nF170_b160_internalGeneralEntity
      have F_b160_internalParameterEntity := nF170_b160_internalParameterEntity
      clear nF170_b160_internalParameterEntity
      have F_b160_attributeList := nF170_b160_attributeList
      clear nF170_b160_attributeList
      have F_b160_declaringBytes := nF170_b160_declaringBytes
      clear nF170_b160_declaringBytes
      show WP p.tables e below _ T170 (mkF m 63 #[.val (.int p1), .val (.int p2), .val (.long q1), .second, .val (.long q2), .second, .val (.int (1 : Int32)), .val (.int (1 : Int32)), .val (.ref b160), .val (.int (1 : Int32)), .unset, .unset, .unset, .unset] [])
      have bk171 : ∀ t, Steps p.tables e below (T170.setTop (mkF m 65 #[.val (.int p1), .val (.int p2), .val (.long q1), .second, .val (.long q2), .second, .val (.int (1 : Int32)), .val (.int (1 : Int32)), .val (.ref b160), .val (.int (1 : Int32)), .unset, .unset, .unset, .unset] [(.ref b160)])) t → Steps p.tables e below (T170.setTop (mkF m 63 #[.val (.int p1), .val (.int p2), .val (.long q1), .second, .val (.long q2), .second, .val (.int (1 : Int32)), .val (.int (1 : Int32)), .val (.ref b160), .val (.int (1 : Int32)), .unset, .unset, .unset, .unset] [])) t := fun t k => by
        refine XS.aload X170.here hx rfl (hb hby at_63) rfl rfl ?_
        exact k
      refine WP.st bk171 ?_
      clear bk171
      obtain ⟨cq172, kq172, q172a, q172b, q172c⟩ := isOf hZ e170 E_b160
      obtain ⟨_, _, ⟨T172, L172, k172, n172⟩, -, X172, ⟨Lc172, hQ172, l172, y172, z172⟩, st172⟩ := X170.virtualBack hx (y := (⟨"com/example/skope/skope/xml/Intake", "dropsNames", "()Z"⟩ : MethodName)) (z := (⟨"com/example/skope/skope/xml/Intake", "dropsNames", "()Z"⟩ : MethodName)) hown (mvT hZ (hw _ (List.mem_of_getElem? (i := 14) rfl))) (mvT hZ (hw _ (List.mem_of_getElem? (i := 15) rfl))) (notFace_of_selects (args := #[]) (mvT hZ (hw _ (List.mem_of_getElem? (i := 17) rfl)))) (mvT hZ (hw _ (List.mem_of_getElem? (i := 17) rfl))) (mvT hZ (hw _ (List.mem_of_getElem? (i := 16) rfl))) (by decide) (backOf (W := 0) (rm3 l Z a0 hw [] b160 (1 : Int32) h170 n0 Z0 F_b160_dropsNames) hZ (hw _ (List.mem_of_getElem? (i := 18) rfl)) (hw _ (List.mem_of_getElem? (i := 2) rfl)) (by decide) (by decide)) q172a q172c (g := (mkF m 65 #[.val (.int p1), .val (.int p2), .val (.long q1), .second, .val (.long q2), .second, .val (.int (1 : Int32)), .val (.int (1 : Int32)), .val (.ref b160), .val (.int (1 : Int32)), .unset, .unset, .unset, .unset] [(.ref b160)])) rfl (by rw [hml]; rfl) (Steps.refl _) (argsL := []) (rest := []) (lenOf pd_2 rfl) rfl (by show 2 * 0 + _ ≤ _; exact Nat.le_of_eq rfl) (hb hby at_65) (fun _ _ => ⟨rfl, e170, (by decide : 2 + 0 ≤ _), (by decide : 15 + 0 ≤ _)⟩)
      dsimp only [Pt.U, Pt.locs, Pt.cells, Pt.slots] at X172 l172 y172 z172 st172 hQ172
      subst l172 y172 z172
      obtain ⟨rfl, Nq172, Kq172⟩ := hQ172
      replace NF := Fr.app NF Nq172
      clear Nq172
      refine WP.tr st172 ?_
      clear st172
      replace Kq172 := Kq172.trans (rfl : h170 = h170)
      show WP p.tables e below _ T172 (mkF m 68 #[.val (.int p1), .val (.int p2), .val (.long q1), .second, .val (.long q2), .second, .val (.int (1 : Int32)), .val (.int (1 : Int32)), .val (.ref b160), .val (.int (1 : Int32)), .unset, .unset, .unset, .unset] [(.int (nar .boolean (1 : Int32)))])
      rw [show (nar .boolean (1 : Int32)) = (1 : Int32) from by decide]
      show WP p.tables e below _ T172 (mkF m 68 #[.val (.int p1), .val (.int p2), .val (.long q1), .second, .val (.long q2), .second, .val (.int (1 : Int32)), .val (.int (1 : Int32)), .val (.ref b160), .val (.int (1 : Int32)), .unset, .unset, .unset, .unset] [(.int (1 : Int32))])
      have bk173 : ∀ t, Steps p.tables e below (T172.setTop (mkF m 82 #[.val (.int p1), .val (.int p2), .val (.long q1), .second, .val (.long q2), .second, .val (.int (1 : Int32)), .val (.int (1 : Int32)), .val (.ref b160), .val (.int (1 : Int32)), .val (.int (1 : Int32)), .unset, .unset, .unset] [(.ref b160)])) t → Steps p.tables e below (T172.setTop (mkF m 68 #[.val (.int p1), .val (.int p2), .val (.long q1), .second, .val (.long q2), .second, .val (.int (1 : Int32)), .val (.int (1 : Int32)), .val (.ref b160), .val (.int (1 : Int32)), .unset, .unset, .unset, .unset] [(.int (1 : Int32))])) t := fun t k => by
        refine XS.iload X172.here hx rfl (hb hby at_68) rfl ?_
        show Steps p.tables e below (T172.setTop (mkF m 70 #[.val (.int p1), .val (.int p2), .val (.long q1), .second, .val (.long q2), .second, .val (.int (1 : Int32)), .val (.int (1 : Int32)), .val (.ref b160), .val (.int (1 : Int32)), .unset, .unset, .unset, .unset] [(.int (1 : Int32)), (.int (1 : Int32))])) t
        refine XS.icmpNo X172.here hx rfl (hb hby at_70) rfl (teq (by decide : (1 : Int32) = (1 : Int32))).2 ?_
        show Steps p.tables e below (T172.setTop (mkF m 73 #[.val (.int p1), .val (.int p2), .val (.long q1), .second, .val (.long q2), .second, .val (.int (1 : Int32)), .val (.int (1 : Int32)), .val (.ref b160), .val (.int (1 : Int32)), .unset, .unset, .unset, .unset] [])) t
        refine XS.iconst X172.here hx rfl (hb hby at_73) ?_
        show Steps p.tables e below (T172.setTop (mkF m 74 #[.val (.int p1), .val (.int p2), .val (.long q1), .second, .val (.long q2), .second, .val (.int (1 : Int32)), .val (.int (1 : Int32)), .val (.ref b160), .val (.int (1 : Int32)), .unset, .unset, .unset, .unset] [(.int (1 : Int32))])) t
        refine XS.goto X172.here hx rfl (pc0 := 74) (pc' := 78) rfl (hb hby at_74) (by decide) (by decide) ?_
        show Steps p.tables e below (T172.setTop (mkF m 78 #[.val (.int p1), .val (.int p2), .val (.long q1), .second, .val (.long q2), .second, .val (.int (1 : Int32)), .val (.int (1 : Int32)), .val (.ref b160), .val (.int (1 : Int32)), .unset, .unset, .unset, .unset] [(.int (1 : Int32))])) t
        refine XS.istore X172.here hx rfl (hb hby at_78) rfl (l' := #[.val (.int p1), .val (.int p2), .val (.long q1), .second, .val (.long q2), .second, .val (.int (1 : Int32)), .val (.int (1 : Int32)), .val (.ref b160), .val (.int (1 : Int32)), .val (.int (1 : Int32)), .unset, .unset, .unset]) rfl ?_
        show Steps p.tables e below (T172.setTop (mkF m 80 #[.val (.int p1), .val (.int p2), .val (.long q1), .second, .val (.long q2), .second, .val (.int (1 : Int32)), .val (.int (1 : Int32)), .val (.ref b160), .val (.int (1 : Int32)), .val (.int (1 : Int32)), .unset, .unset, .unset] [])) t
        refine XS.aload X172.here hx rfl (hb hby at_80) rfl rfl ?_
        exact k
      refine WP.st bk173 ?_
      clear bk173
      obtain ⟨cq174, kq174, q174a, q174b, q174c⟩ := isOf hZ Kq172 E_b160
      obtain ⟨_, _, ⟨T174, L174, k174, n174⟩, -, X174, ⟨Lc174, hQ174, l174, y174, z174⟩, st174⟩ := X172.virtualBack hx (y := (⟨"com/example/skope/skope/xml/Intake", "clear", "()V"⟩ : MethodName)) (z := (⟨"com/example/skope/skope/xml/Intake", "clear", "()V"⟩ : MethodName)) hown (mvT hZ (hw _ (List.mem_of_getElem? (i := 44) rfl))) (mvT hZ (hw _ (List.mem_of_getElem? (i := 45) rfl))) (notFace_of_selects (args := #[]) (mvT hZ (hw _ (List.mem_of_getElem? (i := 47) rfl)))) (mvT hZ (hw _ (List.mem_of_getElem? (i := 47) rfl))) (mvT hZ (hw _ (List.mem_of_getElem? (i := 46) rfl))) (by decide) (backOf (W := 0) (rm8 l Z a0 hw [] b160 (1 : Int32) (own_max (0 : Int32) p2) q1 q2 (0 : Int32) (0 : Int64) (0 : Int64) (0 : Int32) (0 : Int32) (0 : Int32) (0 : Int32) (if (1 : Int32) = 0 then (0 : Int64) else 0) h170 n0 Z0 E_b160 g_b160 F_b160_dropsNames F_b160_nesting F_b160_passedOnDeclarations F_b160_passedOnChars F_b160_documentTypeDeclaration F_b160_bytes F_b160_stretch F_b160_started F_b160_internalGeneralEntity F_b160_internalParameterEntity F_b160_attributeList F_b160_declaringBytes (by decide : (0 : Int32) = (0 : Int32))) hZ (hw _ (List.mem_of_getElem? (i := 48) rfl)) (hw _ (List.mem_of_getElem? (i := 2) rfl)) (by decide) (by decide)) q174a q174c (g := (mkF m 82 #[.val (.int p1), .val (.int p2), .val (.long q1), .second, .val (.long q2), .second, .val (.int (1 : Int32)), .val (.int (1 : Int32)), .val (.ref b160), .val (.int (1 : Int32)), .val (.int (1 : Int32)), .unset, .unset, .unset] [(.ref b160)])) rfl (by rw [hml]; rfl) (Steps.refl _) (argsL := []) (rest := []) (lenOf pd_1 rfl) rfl (by show 2 * 0 + _ ≤ _; exact Nat.le_of_eq rfl) (hb hby at_82) (fun _ _ => ⟨rfl, Kq172, (by decide : 2 + 0 ≤ _), (by decide : 15 + 0 ≤ _)⟩)
      dsimp only [Pt.U, Pt.locs, Pt.cells, Pt.slots] at X174 l174 y174 z174 st174 hQ174
      subst l174 y174 z174
      obtain ⟨rfl, Nq174, Kq174, nF174_b160_dropsNames, nF174_b160_nesting, nF174_b160_passedOnDeclarations, nF174_b160_passedOnChars, nF174_b160_documentTypeDeclaration, nF174_b160_bytes, nF174_b160_stretch, nF174_b160_started, nF174_b160_internalGeneralEntity, nF174_b160_internalParameterEntity, nF174_b160_attributeList, nF174_b160_declaringBytes⟩ := hQ174
      replace NF := Fr.app NF Nq174
      clear Nq174
      refine WP.tr st174 ?_
      clear st174
      obtain ⟨h174, e174⟩ : ∃ h, T174.heap = h := ⟨_, rfl⟩
      rw [e174] at Kq174 nF174_b160_dropsNames nF174_b160_nesting nF174_b160_passedOnDeclarations nF174_b160_passedOnChars nF174_b160_documentTypeDeclaration nF174_b160_bytes nF174_b160_stretch nF174_b160_started nF174_b160_internalGeneralEntity nF174_b160_internalParameterEntity nF174_b160_attributeList nF174_b160_declaringBytes
      replace E_b160 := E_b160.keep Kq174
      clear F_b160_dropsNames
      clear F_b160_nesting
      clear F_b160_passedOnDeclarations
      clear F_b160_passedOnChars
      clear F_b160_documentTypeDeclaration
      clear F_b160_bytes
      clear F_b160_stretch
      clear F_b160_started
      clear F_b160_internalGeneralEntity
      clear F_b160_internalParameterEntity
      clear F_b160_attributeList
      clear F_b160_declaringBytes
      replace Z0 := Nat.le_trans Z0 Kq174.1
      clear Kq174
      have F_b160_dropsNames := nF174_b160_dropsNames
      clear nF174_b160_dropsNames
      have F_b160_nesting := nF174_b160_nesting
      clear nF174_b160_nesting
      have F_b160_passedOnDeclarations := nF174_b160_passedOnDeclarations
      clear nF174_b160_passedOnDeclarations
      have F_b160_passedOnChars := nF174_b160_passedOnChars
      clear nF174_b160_passedOnChars
      have F_b160_documentTypeDeclaration := nF174_b160_documentTypeDeclaration
      clear nF174_b160_documentTypeDeclaration
      have F_b160_bytes := nF174_b160_bytes
      clear nF174_b160_bytes
      have F_b160_stretch := nF174_b160_stretch
      clear nF174_b160_stretch
      have F_b160_started := nF174_b160_started
      clear nF174_b160_started
      have F_b160_internalGeneralEntity := nF174_b160_internalGeneralEntity
      clear nF174_b160_internalGeneralEntity
      have F_b160_internalParameterEntity := nF174_b160_internalParameterEntity
      clear nF174_b160_internalParameterEntity
      have F_b160_attributeList := nF174_b160_attributeList
      clear nF174_b160_attributeList
      have F_b160_declaringBytes := nF174_b160_declaringBytes
      clear nF174_b160_declaringBytes
      show WP p.tables e below _ T174 (mkF m 85 #[.val (.int p1), .val (.int p2), .val (.long q1), .second, .val (.long q2), .second, .val (.int (1 : Int32)), .val (.int (1 : Int32)), .val (.ref b160), .val (.int (1 : Int32)), .val (.int (1 : Int32)), .unset, .unset, .unset] [])
      have bk175 : ∀ t, Steps p.tables e below (T174.setTop (mkF m 87 #[.val (.int p1), .val (.int p2), .val (.long q1), .second, .val (.long q2), .second, .val (.int (1 : Int32)), .val (.int (1 : Int32)), .val (.ref b160), .val (.int (1 : Int32)), .val (.int (1 : Int32)), .unset, .unset, .unset] [(.ref b160)])) t → Steps p.tables e below (T174.setTop (mkF m 85 #[.val (.int p1), .val (.int p2), .val (.long q1), .second, .val (.long q2), .second, .val (.int (1 : Int32)), .val (.int (1 : Int32)), .val (.ref b160), .val (.int (1 : Int32)), .val (.int (1 : Int32)), .unset, .unset, .unset] [])) t := fun t k => by
        refine XS.aload X174.here hx rfl (hb hby at_85) rfl rfl ?_
        exact k
      refine WP.st bk175 ?_
      clear bk175
      obtain ⟨cq176, kq176, q176a, q176b, q176c⟩ := isOf hZ e174 E_b160
      obtain ⟨_, _, ⟨T176, L176, k176, n176⟩, -, X176, ⟨Lc176, hQ176, l176, y176, z176⟩, st176⟩ := X174.virtualBack hx (y := (⟨"com/example/skope/skope/xml/Intake", "dropsNames", "()Z"⟩ : MethodName)) (z := (⟨"com/example/skope/skope/xml/Intake", "dropsNames", "()Z"⟩ : MethodName)) hown (mvT hZ (hw _ (List.mem_of_getElem? (i := 14) rfl))) (mvT hZ (hw _ (List.mem_of_getElem? (i := 15) rfl))) (notFace_of_selects (args := #[]) (mvT hZ (hw _ (List.mem_of_getElem? (i := 17) rfl)))) (mvT hZ (hw _ (List.mem_of_getElem? (i := 17) rfl))) (mvT hZ (hw _ (List.mem_of_getElem? (i := 16) rfl))) (by decide) (backOf (W := 0) (rm3 l Z a0 hw [] b160 (1 : Int32) h174 n0 Z0 F_b160_dropsNames) hZ (hw _ (List.mem_of_getElem? (i := 18) rfl)) (hw _ (List.mem_of_getElem? (i := 2) rfl)) (by decide) (by decide)) q176a q176c (g := (mkF m 87 #[.val (.int p1), .val (.int p2), .val (.long q1), .second, .val (.long q2), .second, .val (.int (1 : Int32)), .val (.int (1 : Int32)), .val (.ref b160), .val (.int (1 : Int32)), .val (.int (1 : Int32)), .unset, .unset, .unset] [(.ref b160)])) rfl (by rw [hml]; rfl) (Steps.refl _) (argsL := []) (rest := []) (lenOf pd_2 rfl) rfl (by show 2 * 0 + _ ≤ _; exact Nat.le_of_eq rfl) (hb hby at_87) (fun _ _ => ⟨rfl, e174, (by decide : 2 + 0 ≤ _), (by decide : 15 + 0 ≤ _)⟩)
      dsimp only [Pt.U, Pt.locs, Pt.cells, Pt.slots] at X176 l176 y176 z176 st176 hQ176
      subst l176 y176 z176
      obtain ⟨rfl, Nq176, Kq176⟩ := hQ176
      replace NF := Fr.app NF Nq176
      clear Nq176
      refine WP.tr st176 ?_
      clear st176
      replace Kq176 := Kq176.trans (rfl : h174 = h174)
      show WP p.tables e below _ T176 (mkF m 90 #[.val (.int p1), .val (.int p2), .val (.long q1), .second, .val (.long q2), .second, .val (.int (1 : Int32)), .val (.int (1 : Int32)), .val (.ref b160), .val (.int (1 : Int32)), .val (.int (1 : Int32)), .unset, .unset, .unset] [(.int (nar .boolean (1 : Int32)))])
      rw [show (nar .boolean (1 : Int32)) = (1 : Int32) from by decide]
      show WP p.tables e below _ T176 (mkF m 90 #[.val (.int p1), .val (.int p2), .val (.long q1), .second, .val (.long q2), .second, .val (.int (1 : Int32)), .val (.int (1 : Int32)), .val (.ref b160), .val (.int (1 : Int32)), .val (.int (1 : Int32)), .unset, .unset, .unset] [(.int (1 : Int32))])
      have bk177 : ∀ t, Steps p.tables e below (T176.setTop (mkF m 106 #[.val (.int p1), .val (.int p2), .val (.long q1), .second, .val (.long q2), .second, .val (.int (1 : Int32)), .val (.int (1 : Int32)), .val (.ref b160), .val (.int (1 : Int32)), .val (.int (1 : Int32)), .val (.int (1 : Int32)), .unset, .unset] [(.int (1 : Int32)), (.ref b160)])) t → Steps p.tables e below (T176.setTop (mkF m 90 #[.val (.int p1), .val (.int p2), .val (.long q1), .second, .val (.long q2), .second, .val (.int (1 : Int32)), .val (.int (1 : Int32)), .val (.ref b160), .val (.int (1 : Int32)), .val (.int (1 : Int32)), .unset, .unset, .unset] [(.int (1 : Int32))])) t := fun t k => by
        refine XS.iload X176.here hx rfl (hb hby at_90) rfl ?_
        show Steps p.tables e below (T176.setTop (mkF m 92 #[.val (.int p1), .val (.int p2), .val (.long q1), .second, .val (.long q2), .second, .val (.int (1 : Int32)), .val (.int (1 : Int32)), .val (.ref b160), .val (.int (1 : Int32)), .val (.int (1 : Int32)), .unset, .unset, .unset] [(.int (1 : Int32)), (.int (1 : Int32))])) t
        refine XS.icmpNo X176.here hx rfl (hb hby at_92) rfl (teq (by decide : (1 : Int32) = (1 : Int32))).2 ?_
        show Steps p.tables e below (T176.setTop (mkF m 95 #[.val (.int p1), .val (.int p2), .val (.long q1), .second, .val (.long q2), .second, .val (.int (1 : Int32)), .val (.int (1 : Int32)), .val (.ref b160), .val (.int (1 : Int32)), .val (.int (1 : Int32)), .unset, .unset, .unset] [])) t
        refine XS.iconst X176.here hx rfl (hb hby at_95) ?_
        show Steps p.tables e below (T176.setTop (mkF m 96 #[.val (.int p1), .val (.int p2), .val (.long q1), .second, .val (.long q2), .second, .val (.int (1 : Int32)), .val (.int (1 : Int32)), .val (.ref b160), .val (.int (1 : Int32)), .val (.int (1 : Int32)), .unset, .unset, .unset] [(.int (1 : Int32))])) t
        refine XS.goto X176.here hx rfl (pc0 := 96) (pc' := 100) rfl (hb hby at_96) (by decide) (by decide) ?_
        show Steps p.tables e below (T176.setTop (mkF m 100 #[.val (.int p1), .val (.int p2), .val (.long q1), .second, .val (.long q2), .second, .val (.int (1 : Int32)), .val (.int (1 : Int32)), .val (.ref b160), .val (.int (1 : Int32)), .val (.int (1 : Int32)), .unset, .unset, .unset] [(.int (1 : Int32))])) t
        refine XS.istore X176.here hx rfl (hb hby at_100) rfl (l' := #[.val (.int p1), .val (.int p2), .val (.long q1), .second, .val (.long q2), .second, .val (.int (1 : Int32)), .val (.int (1 : Int32)), .val (.ref b160), .val (.int (1 : Int32)), .val (.int (1 : Int32)), .val (.int (1 : Int32)), .unset, .unset]) rfl ?_
        show Steps p.tables e below (T176.setTop (mkF m 102 #[.val (.int p1), .val (.int p2), .val (.long q1), .second, .val (.long q2), .second, .val (.int (1 : Int32)), .val (.int (1 : Int32)), .val (.ref b160), .val (.int (1 : Int32)), .val (.int (1 : Int32)), .val (.int (1 : Int32)), .unset, .unset] [])) t
        refine XS.aload X176.here hx rfl (hb hby at_102) rfl rfl ?_
        show Steps p.tables e below (T176.setTop (mkF m 104 #[.val (.int p1), .val (.int p2), .val (.long q1), .second, .val (.long q2), .second, .val (.int (1 : Int32)), .val (.int (1 : Int32)), .val (.ref b160), .val (.int (1 : Int32)), .val (.int (1 : Int32)), .val (.int (1 : Int32)), .unset, .unset] [(.ref b160)])) t
        refine XS.iload X176.here hx rfl (hb hby at_104) rfl ?_
        exact k
      refine WP.st bk177 ?_
      clear bk177
      obtain ⟨cq178, kq178, q178a, q178b, q178c⟩ := isOf hZ Kq176 E_b160
      obtain ⟨_, _, ⟨T178, L178, k178, n178⟩, -, X178, ⟨Lc178, hQ178, l178, y178, z178⟩, st178⟩ := X176.virtualBack hx (y := (⟨"com/example/skope/skope/xml/Intake", "dropNames", "(Z)V"⟩ : MethodName)) (z := (⟨"com/example/skope/skope/xml/Intake", "dropNames", "(Z)V"⟩ : MethodName)) hown (mvT hZ (hw _ (List.mem_of_getElem? (i := 39) rfl))) (mvT hZ (hw _ (List.mem_of_getElem? (i := 40) rfl))) (notFace_of_selects (args := #[]) (mvT hZ (hw _ (List.mem_of_getElem? (i := 42) rfl)))) (mvT hZ (hw _ (List.mem_of_getElem? (i := 42) rfl))) (mvT hZ (hw _ (List.mem_of_getElem? (i := 41) rfl))) (by decide) (backOf (W := 0) (rm7 l Z a0 hw [] b160 (1 : Int32) (1 : Int32) (own_max (0 : Int32) p2) q1 q2 (0 : Int32) (0 : Int64) (0 : Int64) (0 : Int32) (0 : Int32) (0 : Int32) (0 : Int32) (if (1 : Int32) = 0 then (0 : Int64) else 0) h174 n0 Z0 E_b160 g_b160 F_b160_dropsNames F_b160_nesting F_b160_passedOnDeclarations F_b160_passedOnChars F_b160_documentTypeDeclaration F_b160_bytes F_b160_stretch F_b160_started F_b160_internalGeneralEntity F_b160_internalParameterEntity F_b160_attributeList F_b160_declaringBytes (by decide : (1 : Int32) = 0 ∨ (1 : Int32) = 1)) hZ (hw _ (List.mem_of_getElem? (i := 43) rfl)) (hw _ (List.mem_of_getElem? (i := 2) rfl)) (by decide) (by decide)) q178a q178c (g := (mkF m 106 #[.val (.int p1), .val (.int p2), .val (.long q1), .second, .val (.long q2), .second, .val (.int (1 : Int32)), .val (.int (1 : Int32)), .val (.ref b160), .val (.int (1 : Int32)), .val (.int (1 : Int32)), .val (.int (1 : Int32)), .unset, .unset] [(.int (1 : Int32)), (.ref b160)])) rfl (by rw [hml]; rfl) (Steps.refl _) (argsL := [(.int (1 : Int32))]) (rest := []) (lenOf pd_5 rfl) rfl (by show 2 * 0 + _ ≤ _; exact Nat.le_of_eq rfl) (hb hby at_106) (fun _ _ => ⟨rfl, Kq176, (by decide : 2 + 0 ≤ _), (by decide : 15 + 0 ≤ _)⟩)
      dsimp only [Pt.U, Pt.locs, Pt.cells, Pt.slots] at X178 l178 y178 z178 st178 hQ178
      subst l178 y178 z178
      obtain ⟨rfl, Nq178, Kq178, nF178_b160_dropsNames, nF178_b160_nesting, nF178_b160_passedOnDeclarations, nF178_b160_passedOnChars, nF178_b160_documentTypeDeclaration, nF178_b160_bytes, nF178_b160_stretch, nF178_b160_started, nF178_b160_internalGeneralEntity, nF178_b160_internalParameterEntity, nF178_b160_attributeList, nF178_b160_declaringBytes⟩ := hQ178
      replace NF := Fr.app NF Nq178
      clear Nq178
      refine WP.tr st178 ?_
      clear st178
      obtain ⟨h178, e178⟩ : ∃ h, T178.heap = h := ⟨_, rfl⟩
      rw [e178] at Kq178 nF178_b160_dropsNames nF178_b160_nesting nF178_b160_passedOnDeclarations nF178_b160_passedOnChars nF178_b160_documentTypeDeclaration nF178_b160_bytes nF178_b160_stretch nF178_b160_started nF178_b160_internalGeneralEntity nF178_b160_internalParameterEntity nF178_b160_attributeList nF178_b160_declaringBytes
      replace E_b160 := E_b160.keep Kq178
      clear F_b160_dropsNames
      clear F_b160_nesting
      clear F_b160_passedOnDeclarations
      clear F_b160_passedOnChars
      clear F_b160_documentTypeDeclaration
      clear F_b160_bytes
      clear F_b160_stretch
      clear F_b160_started
      clear F_b160_internalGeneralEntity
      clear F_b160_internalParameterEntity
      clear F_b160_attributeList
      clear F_b160_declaringBytes
      replace Z0 := Nat.le_trans Z0 Kq178.1
      clear Kq178
      have F_b160_dropsNames := nF178_b160_dropsNames
      clear nF178_b160_dropsNames
      have F_b160_nesting := nF178_b160_nesting
      clear nF178_b160_nesting
      have F_b160_passedOnDeclarations := nF178_b160_passedOnDeclarations
      clear nF178_b160_passedOnDeclarations
      have F_b160_passedOnChars := nF178_b160_passedOnChars
      clear nF178_b160_passedOnChars
      have F_b160_documentTypeDeclaration := nF178_b160_documentTypeDeclaration
      clear nF178_b160_documentTypeDeclaration
      have F_b160_bytes := nF178_b160_bytes
      clear nF178_b160_bytes
      have F_b160_stretch := nF178_b160_stretch
      clear nF178_b160_stretch
      have F_b160_started := nF178_b160_started
      clear nF178_b160_started
      have F_b160_internalGeneralEntity := nF178_b160_internalGeneralEntity
      clear nF178_b160_internalGeneralEntity
      have F_b160_internalParameterEntity := nF178_b160_internalParameterEntity
      clear nF178_b160_internalParameterEntity
      have F_b160_attributeList := nF178_b160_attributeList
      clear nF178_b160_attributeList
      have F_b160_declaringBytes := nF178_b160_declaringBytes
      clear nF178_b160_declaringBytes
      show WP p.tables e below _ T178 (mkF m 109 #[.val (.int p1), .val (.int p2), .val (.long q1), .second, .val (.long q2), .second, .val (.int (1 : Int32)), .val (.int (1 : Int32)), .val (.ref b160), .val (.int (1 : Int32)), .val (.int (1 : Int32)), .val (.int (1 : Int32)), .unset, .unset] [])
      have bk179 : ∀ t, Steps p.tables e below (T178.setTop (mkF m 111 #[.val (.int p1), .val (.int p2), .val (.long q1), .second, .val (.long q2), .second, .val (.int (1 : Int32)), .val (.int (1 : Int32)), .val (.ref b160), .val (.int (1 : Int32)), .val (.int (1 : Int32)), .val (.int (1 : Int32)), .unset, .unset] [(.ref b160)])) t → Steps p.tables e below (T178.setTop (mkF m 109 #[.val (.int p1), .val (.int p2), .val (.long q1), .second, .val (.long q2), .second, .val (.int (1 : Int32)), .val (.int (1 : Int32)), .val (.ref b160), .val (.int (1 : Int32)), .val (.int (1 : Int32)), .val (.int (1 : Int32)), .unset, .unset] [])) t := fun t k => by
        refine XS.aload X178.here hx rfl (hb hby at_109) rfl rfl ?_
        exact k
      refine WP.st bk179 ?_
      clear bk179
      obtain ⟨cq180, kq180, q180a, q180b, q180c⟩ := isOf hZ e178 E_b160
      obtain ⟨_, _, ⟨T180, L180, k180, n180⟩, -, X180, ⟨Lc180, hQ180, l180, y180, z180⟩, st180⟩ := X178.virtualBack hx (y := (⟨"com/example/skope/skope/xml/Intake", "dropsNames", "()Z"⟩ : MethodName)) (z := (⟨"com/example/skope/skope/xml/Intake", "dropsNames", "()Z"⟩ : MethodName)) hown (mvT hZ (hw _ (List.mem_of_getElem? (i := 14) rfl))) (mvT hZ (hw _ (List.mem_of_getElem? (i := 15) rfl))) (notFace_of_selects (args := #[]) (mvT hZ (hw _ (List.mem_of_getElem? (i := 17) rfl)))) (mvT hZ (hw _ (List.mem_of_getElem? (i := 17) rfl))) (mvT hZ (hw _ (List.mem_of_getElem? (i := 16) rfl))) (by decide) (backOf (W := 0) (rm3 l Z a0 hw [] b160 (1 : Int32) h178 n0 Z0 F_b160_dropsNames) hZ (hw _ (List.mem_of_getElem? (i := 18) rfl)) (hw _ (List.mem_of_getElem? (i := 2) rfl)) (by decide) (by decide)) q180a q180c (g := (mkF m 111 #[.val (.int p1), .val (.int p2), .val (.long q1), .second, .val (.long q2), .second, .val (.int (1 : Int32)), .val (.int (1 : Int32)), .val (.ref b160), .val (.int (1 : Int32)), .val (.int (1 : Int32)), .val (.int (1 : Int32)), .unset, .unset] [(.ref b160)])) rfl (by rw [hml]; rfl) (Steps.refl _) (argsL := []) (rest := []) (lenOf pd_2 rfl) rfl (by show 2 * 0 + _ ≤ _; exact Nat.le_of_eq rfl) (hb hby at_111) (fun _ _ => ⟨rfl, e178, (by decide : 2 + 0 ≤ _), (by decide : 15 + 0 ≤ _)⟩)
      dsimp only [Pt.U, Pt.locs, Pt.cells, Pt.slots] at X180 l180 y180 z180 st180 hQ180
      subst l180 y180 z180
      obtain ⟨rfl, Nq180, Kq180⟩ := hQ180
      replace NF := Fr.app NF Nq180
      clear Nq180
      refine WP.tr st180 ?_
      clear st180
      replace Kq180 := Kq180.trans (rfl : h178 = h178)
      show WP p.tables e below _ T180 (mkF m 114 #[.val (.int p1), .val (.int p2), .val (.long q1), .second, .val (.long q2), .second, .val (.int (1 : Int32)), .val (.int (1 : Int32)), .val (.ref b160), .val (.int (1 : Int32)), .val (.int (1 : Int32)), .val (.int (1 : Int32)), .unset, .unset] [(.int (nar .boolean (1 : Int32)))])
      rw [show (nar .boolean (1 : Int32)) = (1 : Int32) from by decide]
      show WP p.tables e below _ T180 (mkF m 114 #[.val (.int p1), .val (.int p2), .val (.long q1), .second, .val (.long q2), .second, .val (.int (1 : Int32)), .val (.int (1 : Int32)), .val (.ref b160), .val (.int (1 : Int32)), .val (.int (1 : Int32)), .val (.int (1 : Int32)), .unset, .unset] [(.int (1 : Int32))])
      have bk181 : ∀ t, Steps p.tables e below (T180.setTop (mkF m 128 #[.val (.int p1), .val (.int p2), .val (.long q1), .second, .val (.long q2), .second, .val (.int (1 : Int32)), .val (.int (1 : Int32)), .val (.ref b160), .val (.int (1 : Int32)), .val (.int (1 : Int32)), .val (.int (1 : Int32)), .val (.int (1 : Int32)), .unset] [(.ref b160)])) t → Steps p.tables e below (T180.setTop (mkF m 114 #[.val (.int p1), .val (.int p2), .val (.long q1), .second, .val (.long q2), .second, .val (.int (1 : Int32)), .val (.int (1 : Int32)), .val (.ref b160), .val (.int (1 : Int32)), .val (.int (1 : Int32)), .val (.int (1 : Int32)), .unset, .unset] [(.int (1 : Int32))])) t := fun t k => by
        refine XS.iload X180.here hx rfl (hb hby at_114) rfl ?_
        show Steps p.tables e below (T180.setTop (mkF m 116 #[.val (.int p1), .val (.int p2), .val (.long q1), .second, .val (.long q2), .second, .val (.int (1 : Int32)), .val (.int (1 : Int32)), .val (.ref b160), .val (.int (1 : Int32)), .val (.int (1 : Int32)), .val (.int (1 : Int32)), .unset, .unset] [(.int (1 : Int32)), (.int (1 : Int32))])) t
        refine XS.icmpNo X180.here hx rfl (hb hby at_116) rfl (teq (by decide : (1 : Int32) = (1 : Int32))).2 ?_
        show Steps p.tables e below (T180.setTop (mkF m 119 #[.val (.int p1), .val (.int p2), .val (.long q1), .second, .val (.long q2), .second, .val (.int (1 : Int32)), .val (.int (1 : Int32)), .val (.ref b160), .val (.int (1 : Int32)), .val (.int (1 : Int32)), .val (.int (1 : Int32)), .unset, .unset] [])) t
        refine XS.iconst X180.here hx rfl (hb hby at_119) ?_
        show Steps p.tables e below (T180.setTop (mkF m 120 #[.val (.int p1), .val (.int p2), .val (.long q1), .second, .val (.long q2), .second, .val (.int (1 : Int32)), .val (.int (1 : Int32)), .val (.ref b160), .val (.int (1 : Int32)), .val (.int (1 : Int32)), .val (.int (1 : Int32)), .unset, .unset] [(.int (1 : Int32))])) t
        refine XS.goto X180.here hx rfl (pc0 := 120) (pc' := 124) rfl (hb hby at_120) (by decide) (by decide) ?_
        show Steps p.tables e below (T180.setTop (mkF m 124 #[.val (.int p1), .val (.int p2), .val (.long q1), .second, .val (.long q2), .second, .val (.int (1 : Int32)), .val (.int (1 : Int32)), .val (.ref b160), .val (.int (1 : Int32)), .val (.int (1 : Int32)), .val (.int (1 : Int32)), .unset, .unset] [(.int (1 : Int32))])) t
        refine XS.istore X180.here hx rfl (hb hby at_124) rfl (l' := #[.val (.int p1), .val (.int p2), .val (.long q1), .second, .val (.long q2), .second, .val (.int (1 : Int32)), .val (.int (1 : Int32)), .val (.ref b160), .val (.int (1 : Int32)), .val (.int (1 : Int32)), .val (.int (1 : Int32)), .val (.int (1 : Int32)), .unset]) rfl ?_
        show Steps p.tables e below (T180.setTop (mkF m 126 #[.val (.int p1), .val (.int p2), .val (.long q1), .second, .val (.long q2), .second, .val (.int (1 : Int32)), .val (.int (1 : Int32)), .val (.ref b160), .val (.int (1 : Int32)), .val (.int (1 : Int32)), .val (.int (1 : Int32)), .val (.int (1 : Int32)), .unset] [])) t
        refine XS.aload X180.here hx rfl (hb hby at_126) rfl rfl ?_
        exact k
      refine WP.st bk181 ?_
      clear bk181
      obtain ⟨cq182, kq182, q182a, q182b, q182c⟩ := isOf hZ Kq180 E_b160
      obtain ⟨_, _, ⟨T182, L182, k182, n182⟩, -, X182, ⟨Lc182, hQ182, l182, y182, z182⟩, st182⟩ := X180.virtualBack hx (y := (⟨"com/example/skope/skope/xml/Intake", "declaringBytes", "()J"⟩ : MethodName)) (z := (⟨"com/example/skope/skope/xml/Intake", "declaringBytes", "()J"⟩ : MethodName)) hown (mvT hZ (hw _ (List.mem_of_getElem? (i := 63) rfl))) (mvT hZ (hw _ (List.mem_of_getElem? (i := 64) rfl))) (notFace_of_selects (args := #[]) (mvT hZ (hw _ (List.mem_of_getElem? (i := 66) rfl)))) (mvT hZ (hw _ (List.mem_of_getElem? (i := 66) rfl))) (mvT hZ (hw _ (List.mem_of_getElem? (i := 65) rfl))) (by decide) (backOf (W := 0) (rm9 l Z a0 hw [] b160 (if (1 : Int32) = 0 then (if (1 : Int32) = 0 then (0 : Int64) else 0) else 0) h178 n0 Z0 F_b160_declaringBytes) hZ (hw _ (List.mem_of_getElem? (i := 67) rfl)) (hw _ (List.mem_of_getElem? (i := 2) rfl)) (by decide) (by decide)) q182a q182c (g := (mkF m 128 #[.val (.int p1), .val (.int p2), .val (.long q1), .second, .val (.long q2), .second, .val (.int (1 : Int32)), .val (.int (1 : Int32)), .val (.ref b160), .val (.int (1 : Int32)), .val (.int (1 : Int32)), .val (.int (1 : Int32)), .val (.int (1 : Int32)), .unset] [(.ref b160)])) rfl (by rw [hml]; rfl) (Steps.refl _) (argsL := []) (rest := []) (lenOf pd_6 rfl) rfl (by show 2 * 0 + _ ≤ _; exact Nat.le_of_eq rfl) (hb hby at_128) (fun _ _ => ⟨rfl, Kq180, (by decide : 2 + 0 ≤ _), (by decide : 15 + 0 ≤ _)⟩)
      dsimp only [Pt.U, Pt.locs, Pt.cells, Pt.slots] at X182 l182 y182 z182 st182 hQ182
      subst l182 y182 z182
      obtain ⟨rfl, Nq182, Kq182⟩ := hQ182
      replace NF := Fr.app NF Nq182
      clear Nq182
      refine WP.tr st182 ?_
      clear st182
      replace Kq182 := Kq182.trans (rfl : h178 = h178)
      show WP p.tables e below _ T182 (mkF m 131 #[.val (.int p1), .val (.int p2), .val (.long q1), .second, .val (.long q2), .second, .val (.int (1 : Int32)), .val (.int (1 : Int32)), .val (.ref b160), .val (.int (1 : Int32)), .val (.int (1 : Int32)), .val (.int (1 : Int32)), .val (.int (1 : Int32)), .unset] [(.long (if (1 : Int32) = 0 then (if (1 : Int32) = 0 then (0 : Int64) else 0) else 0))])
      have bk183 : ∀ t, Steps p.tables e below (T182.setTop (mkF m 138 #[.val (.int p1), .val (.int p2), .val (.long q1), .second, .val (.long q2), .second, .val (.int (1 : Int32)), .val (.int (1 : Int32)), .val (.ref b160), .val (.int (1 : Int32)), .val (.int (1 : Int32)), .val (.int (1 : Int32)), .val (.int (1 : Int32)), .unset] [(.ref b160)])) t → Steps p.tables e below (T182.setTop (mkF m 131 #[.val (.int p1), .val (.int p2), .val (.long q1), .second, .val (.long q2), .second, .val (.int (1 : Int32)), .val (.int (1 : Int32)), .val (.ref b160), .val (.int (1 : Int32)), .val (.int (1 : Int32)), .val (.int (1 : Int32)), .val (.int (1 : Int32)), .unset] [(.long (if (1 : Int32) = 0 then (if (1 : Int32) = 0 then (0 : Int64) else 0) else 0))])) t := fun t k => by
        refine XS.lconst X182.here hx rfl (hb hby at_131) ?_
        show Steps p.tables e below (T182.setTop (mkF m 132 #[.val (.int p1), .val (.int p2), .val (.long q1), .second, .val (.long q2), .second, .val (.int (1 : Int32)), .val (.int (1 : Int32)), .val (.ref b160), .val (.int (1 : Int32)), .val (.int (1 : Int32)), .val (.int (1 : Int32)), .val (.int (1 : Int32)), .unset] [(.long (0 : Int64)), (.long (if (1 : Int32) = 0 then (if (1 : Int32) = 0 then (0 : Int64) else 0) else 0))])) t
        refine XS.lcmp X182.here hx rfl (hb hby at_132) rfl ?_
        show Steps p.tables e below (T182.setTop (mkF m 133 #[.val (.int p1), .val (.int p2), .val (.long q1), .second, .val (.long q2), .second, .val (.int (1 : Int32)), .val (.int (1 : Int32)), .val (.ref b160), .val (.int (1 : Int32)), .val (.int (1 : Int32)), .val (.int (1 : Int32)), .val (.int (1 : Int32)), .unset] [(.int (lcmpW (if (1 : Int32) = 0 then (if (1 : Int32) = 0 then (0 : Int64) else 0) else 0) (0 : Int64)))])) t
        refine XS.ifNo X182.here hx rfl (hb hby at_133) rfl ((if0 _ _).trans (teq (by decide)).2) ?_
        show Steps p.tables e below (T182.setTop (mkF m 136 #[.val (.int p1), .val (.int p2), .val (.long q1), .second, .val (.long q2), .second, .val (.int (1 : Int32)), .val (.int (1 : Int32)), .val (.ref b160), .val (.int (1 : Int32)), .val (.int (1 : Int32)), .val (.int (1 : Int32)), .val (.int (1 : Int32)), .unset] [])) t
        refine XS.aload X182.here hx rfl (hb hby at_136) rfl rfl ?_
        exact k
      refine WP.st bk183 ?_
      clear bk183
      obtain ⟨cq184, kq184, q184a, q184b, q184c⟩ := isOf hZ Kq182 E_b160
      obtain ⟨_, _, ⟨T184, L184, k184, n184⟩, -, X184, ⟨Lc184, hQ184, l184, y184, z184⟩, st184⟩ := X182.virtualBack hx (y := (⟨"com/example/skope/skope/xml/Intake", "nesting", "()I"⟩ : MethodName)) (z := (⟨"com/example/skope/skope/xml/Intake", "nesting", "()I"⟩ : MethodName)) hown (mvT hZ (hw _ (List.mem_of_getElem? (i := 70) rfl))) (mvT hZ (hw _ (List.mem_of_getElem? (i := 71) rfl))) (notFace_of_selects (args := #[]) (mvT hZ (hw _ (List.mem_of_getElem? (i := 73) rfl)))) (mvT hZ (hw _ (List.mem_of_getElem? (i := 73) rfl))) (mvT hZ (hw _ (List.mem_of_getElem? (i := 72) rfl))) (by decide) (backOf (W := 0) (rm10 l Z a0 hw [] b160 (own_max (0 : Int32) p2) h178 n0 Z0 F_b160_nesting) hZ (hw _ (List.mem_of_getElem? (i := 74) rfl)) (hw _ (List.mem_of_getElem? (i := 2) rfl)) (by decide) (by decide)) q184a q184c (g := (mkF m 138 #[.val (.int p1), .val (.int p2), .val (.long q1), .second, .val (.long q2), .second, .val (.int (1 : Int32)), .val (.int (1 : Int32)), .val (.ref b160), .val (.int (1 : Int32)), .val (.int (1 : Int32)), .val (.int (1 : Int32)), .val (.int (1 : Int32)), .unset] [(.ref b160)])) rfl (by rw [hml]; rfl) (Steps.refl _) (argsL := []) (rest := []) (lenOf pd_7 rfl) rfl (by show 2 * 0 + _ ≤ _; exact Nat.le_of_eq rfl) (hb hby at_138) (fun _ _ => ⟨rfl, Kq182, (by decide : 2 + 0 ≤ _), (by decide : 15 + 0 ≤ _)⟩)
      dsimp only [Pt.U, Pt.locs, Pt.cells, Pt.slots] at X184 l184 y184 z184 st184 hQ184
      subst l184 y184 z184
      obtain ⟨rfl, Nq184, Kq184⟩ := hQ184
      replace NF := Fr.app NF Nq184
      clear Nq184
      refine WP.tr st184 ?_
      clear st184
      replace Kq184 := Kq184.trans (rfl : h178 = h178)
      show WP p.tables e below _ T184 (mkF m 141 #[.val (.int p1), .val (.int p2), .val (.long q1), .second, .val (.long q2), .second, .val (.int (1 : Int32)), .val (.int (1 : Int32)), .val (.ref b160), .val (.int (1 : Int32)), .val (.int (1 : Int32)), .val (.int (1 : Int32)), .val (.int (1 : Int32)), .unset] [(.int (own_max (0 : Int32) p2))])
      have bk185 : ∀ t, Steps p.tables e below (T184.setTop (mkF m 143 #[.val (.int p1), .val (.int p2), .val (.long q1), .second, .val (.long q2), .second, .val (.int (1 : Int32)), .val (.int (1 : Int32)), .val (.ref b160), .val (.int (1 : Int32)), .val (.int (1 : Int32)), .val (.int (1 : Int32)), .val (.int (1 : Int32)), .unset] [(.int p2), (.int (0 : Int32)), (.int (own_max (0 : Int32) p2))])) t → Steps p.tables e below (T184.setTop (mkF m 141 #[.val (.int p1), .val (.int p2), .val (.long q1), .second, .val (.long q2), .second, .val (.int (1 : Int32)), .val (.int (1 : Int32)), .val (.ref b160), .val (.int (1 : Int32)), .val (.int (1 : Int32)), .val (.int (1 : Int32)), .val (.int (1 : Int32)), .unset] [(.int (own_max (0 : Int32) p2))])) t := fun t k => by
        refine XS.iconst X184.here hx rfl (hb hby at_141) ?_
        show Steps p.tables e below (T184.setTop (mkF m 142 #[.val (.int p1), .val (.int p2), .val (.long q1), .second, .val (.long q2), .second, .val (.int (1 : Int32)), .val (.int (1 : Int32)), .val (.ref b160), .val (.int (1 : Int32)), .val (.int (1 : Int32)), .val (.int (1 : Int32)), .val (.int (1 : Int32)), .unset] [(.int (0 : Int32)), (.int (own_max (0 : Int32) p2))])) t
        refine XS.iloadN X184.here hx rfl (hb hby at_142) rfl ?_
        exact k
      refine WP.st bk185 ?_
      clear bk185
      obtain ⟨_, _, ⟨T186, L186, k186, n186⟩, -, X186, ⟨Lc186, hQ186, l186, y186, z186⟩, st186⟩ := Jvm.LawKit.callS X184 hx (y := (⟨"java/lang/Math", "max", "(II)I"⟩ : MethodName)) hown (mvT hZ (hw _ (List.mem_of_getElem? (i := 75) rfl))) (mvT hZ (hw _ (List.mem_of_getElem? (i := 27) rfl))) (mvT hZ (hw _ (List.mem_of_getElem? (i := 28) rfl))) (mvT hZ (hw _ (List.mem_of_getElem? (i := 29) rfl))) (by decide) (backOf (W := 1) (rm5 l Z a0 hw [] (0 : Int32) p2 h178 n0 Z0 ) hZ (hw _ (List.mem_of_getElem? (i := 29) rfl)) (hw _ (List.mem_of_getElem? (i := 28) rfl)) (by decide) (by decide)) (g := (mkF m 143 #[.val (.int p1), .val (.int p2), .val (.long q1), .second, .val (.long q2), .second, .val (.int (1 : Int32)), .val (.int (1 : Int32)), .val (.ref b160), .val (.int (1 : Int32)), .val (.int (1 : Int32)), .val (.int (1 : Int32)), .val (.int (1 : Int32)), .unset] [(.int p2), (.int (0 : Int32)), (.int (own_max (0 : Int32) p2))])) rfl (by rw [hml]; rfl) (argsL := [(.int (0 : Int32)), (.int p2)]) (rest := [(.int (own_max (0 : Int32) p2))]) (lenOf pd_0 rfl) rfl (by show 2 * 0 + _ ≤ _; exact Nat.le_of_eq rfl) (hb hby at_143) (fun _ _ => ⟨rfl, Kq184, (by decide : 2 + 0 ≤ _), (by decide : 15 + 0 ≤ _)⟩)
      dsimp only [Pt.U, Pt.locs, Pt.cells, Pt.slots] at X186 l186 y186 z186 st186 hQ186
      subst l186 y186 z186
      obtain ⟨rfl, Nq186, Kq186⟩ := hQ186
      replace NF := Fr.app NF Nq186
      clear Nq186
      refine WP.st st186 ?_
      clear st186
      replace Kq186 := Kq186.trans (rfl : h178 = h178)
      show WP p.tables e below _ T186 (mkF m 146 #[.val (.int p1), .val (.int p2), .val (.long q1), .second, .val (.long q2), .second, .val (.int (1 : Int32)), .val (.int (1 : Int32)), .val (.ref b160), .val (.int (1 : Int32)), .val (.int (1 : Int32)), .val (.int (1 : Int32)), .val (.int (1 : Int32)), .unset] [(.int (own_max (0 : Int32) p2)), (.int (own_max (0 : Int32) p2))])
      have bk187 : ∀ t, Steps p.tables e below (T186.setTop (mkF m 151 #[.val (.int p1), .val (.int p2), .val (.long q1), .second, .val (.long q2), .second, .val (.int (1 : Int32)), .val (.int (1 : Int32)), .val (.ref b160), .val (.int (1 : Int32)), .val (.int (1 : Int32)), .val (.int (1 : Int32)), .val (.int (1 : Int32)), .unset] [(.ref b160)])) t → Steps p.tables e below (T186.setTop (mkF m 146 #[.val (.int p1), .val (.int p2), .val (.long q1), .second, .val (.long q2), .second, .val (.int (1 : Int32)), .val (.int (1 : Int32)), .val (.ref b160), .val (.int (1 : Int32)), .val (.int (1 : Int32)), .val (.int (1 : Int32)), .val (.int (1 : Int32)), .unset] [(.int (own_max (0 : Int32) p2)), (.int (own_max (0 : Int32) p2))])) t := fun t k => by
        refine XS.icmpNo X186.here hx rfl (hb hby at_146) rfl (teq (rfl : (own_max (0 : Int32) p2) = (own_max (0 : Int32) p2))).2 ?_
        show Steps p.tables e below (T186.setTop (mkF m 149 #[.val (.int p1), .val (.int p2), .val (.long q1), .second, .val (.long q2), .second, .val (.int (1 : Int32)), .val (.int (1 : Int32)), .val (.ref b160), .val (.int (1 : Int32)), .val (.int (1 : Int32)), .val (.int (1 : Int32)), .val (.int (1 : Int32)), .unset] [])) t
        refine XS.aload X186.here hx rfl (hb hby at_149) rfl rfl ?_
        exact k
      refine WP.st bk187 ?_
      clear bk187
      obtain ⟨cq188, kq188, q188a, q188b, q188c⟩ := isOf hZ Kq186 E_b160
      obtain ⟨_, _, ⟨T188, L188, k188, n188⟩, -, X188, ⟨Lc188, hQ188, l188, y188, z188⟩, st188⟩ := X186.virtualBack hx (y := (⟨"com/example/skope/skope/xml/Intake", "passedOnDeclarations", "()J"⟩ : MethodName)) (z := (⟨"com/example/skope/skope/xml/Intake", "passedOnDeclarations", "()J"⟩ : MethodName)) hown (mvT hZ (hw _ (List.mem_of_getElem? (i := 76) rfl))) (mvT hZ (hw _ (List.mem_of_getElem? (i := 77) rfl))) (notFace_of_selects (args := #[]) (mvT hZ (hw _ (List.mem_of_getElem? (i := 79) rfl)))) (mvT hZ (hw _ (List.mem_of_getElem? (i := 79) rfl))) (mvT hZ (hw _ (List.mem_of_getElem? (i := 78) rfl))) (by decide) (backOf (W := 0) (rm11 l Z a0 hw [] b160 q1 h178 n0 Z0 F_b160_passedOnDeclarations) hZ (hw _ (List.mem_of_getElem? (i := 80) rfl)) (hw _ (List.mem_of_getElem? (i := 2) rfl)) (by decide) (by decide)) q188a q188c (g := (mkF m 151 #[.val (.int p1), .val (.int p2), .val (.long q1), .second, .val (.long q2), .second, .val (.int (1 : Int32)), .val (.int (1 : Int32)), .val (.ref b160), .val (.int (1 : Int32)), .val (.int (1 : Int32)), .val (.int (1 : Int32)), .val (.int (1 : Int32)), .unset] [(.ref b160)])) rfl (by rw [hml]; rfl) (Steps.refl _) (argsL := []) (rest := []) (lenOf pd_6 rfl) rfl (by show 2 * 0 + _ ≤ _; exact Nat.le_of_eq rfl) (hb hby at_151) (fun _ _ => ⟨rfl, Kq186, (by decide : 2 + 0 ≤ _), (by decide : 15 + 0 ≤ _)⟩)
      dsimp only [Pt.U, Pt.locs, Pt.cells, Pt.slots] at X188 l188 y188 z188 st188 hQ188
      subst l188 y188 z188
      obtain ⟨rfl, Nq188, Kq188⟩ := hQ188
      replace NF := Fr.app NF Nq188
      clear Nq188
      refine WP.tr st188 ?_
      clear st188
      replace Kq188 := Kq188.trans (rfl : h178 = h178)
      show WP p.tables e below _ T188 (mkF m 154 #[.val (.int p1), .val (.int p2), .val (.long q1), .second, .val (.long q2), .second, .val (.int (1 : Int32)), .val (.int (1 : Int32)), .val (.ref b160), .val (.int (1 : Int32)), .val (.int (1 : Int32)), .val (.int (1 : Int32)), .val (.int (1 : Int32)), .unset] [(.long q1)])
      have bk189 : ∀ t, Steps p.tables e below (T188.setTop (mkF m 161 #[.val (.int p1), .val (.int p2), .val (.long q1), .second, .val (.long q2), .second, .val (.int (1 : Int32)), .val (.int (1 : Int32)), .val (.ref b160), .val (.int (1 : Int32)), .val (.int (1 : Int32)), .val (.int (1 : Int32)), .val (.int (1 : Int32)), .unset] [(.ref b160)])) t → Steps p.tables e below (T188.setTop (mkF m 154 #[.val (.int p1), .val (.int p2), .val (.long q1), .second, .val (.long q2), .second, .val (.int (1 : Int32)), .val (.int (1 : Int32)), .val (.ref b160), .val (.int (1 : Int32)), .val (.int (1 : Int32)), .val (.int (1 : Int32)), .val (.int (1 : Int32)), .unset] [(.long q1)])) t := fun t k => by
        refine XS.lloadN X188.here hx rfl (hb hby at_154) rfl ?_
        show Steps p.tables e below (T188.setTop (mkF m 155 #[.val (.int p1), .val (.int p2), .val (.long q1), .second, .val (.long q2), .second, .val (.int (1 : Int32)), .val (.int (1 : Int32)), .val (.ref b160), .val (.int (1 : Int32)), .val (.int (1 : Int32)), .val (.int (1 : Int32)), .val (.int (1 : Int32)), .unset] [(.long q1), (.long q1)])) t
        refine XS.lcmp X188.here hx rfl (hb hby at_155) rfl ?_
        show Steps p.tables e below (T188.setTop (mkF m 156 #[.val (.int p1), .val (.int p2), .val (.long q1), .second, .val (.long q2), .second, .val (.int (1 : Int32)), .val (.int (1 : Int32)), .val (.ref b160), .val (.int (1 : Int32)), .val (.int (1 : Int32)), .val (.int (1 : Int32)), .val (.int (1 : Int32)), .unset] [(.int (lcmpW q1 q1))])) t
        refine XS.ifNo X188.here hx rfl (hb hby at_156) rfl ((if0 _ _).trans (teq ((lw_eq _ _).2 rfl)).2) ?_
        show Steps p.tables e below (T188.setTop (mkF m 159 #[.val (.int p1), .val (.int p2), .val (.long q1), .second, .val (.long q2), .second, .val (.int (1 : Int32)), .val (.int (1 : Int32)), .val (.ref b160), .val (.int (1 : Int32)), .val (.int (1 : Int32)), .val (.int (1 : Int32)), .val (.int (1 : Int32)), .unset] [])) t
        refine XS.aload X188.here hx rfl (hb hby at_159) rfl rfl ?_
        exact k
      refine WP.st bk189 ?_
      clear bk189
      obtain ⟨cq190, kq190, q190a, q190b, q190c⟩ := isOf hZ Kq188 E_b160
      obtain ⟨_, _, ⟨T190, L190, k190, n190⟩, -, X190, ⟨Lc190, hQ190, l190, y190, z190⟩, st190⟩ := X188.virtualBack hx (y := (⟨"com/example/skope/skope/xml/Intake", "passedOnChars", "()J"⟩ : MethodName)) (z := (⟨"com/example/skope/skope/xml/Intake", "passedOnChars", "()J"⟩ : MethodName)) hown (mvT hZ (hw _ (List.mem_of_getElem? (i := 81) rfl))) (mvT hZ (hw _ (List.mem_of_getElem? (i := 82) rfl))) (notFace_of_selects (args := #[]) (mvT hZ (hw _ (List.mem_of_getElem? (i := 84) rfl)))) (mvT hZ (hw _ (List.mem_of_getElem? (i := 84) rfl))) (mvT hZ (hw _ (List.mem_of_getElem? (i := 83) rfl))) (by decide) (backOf (W := 0) (rm12 l Z a0 hw [] b160 q2 h178 n0 Z0 F_b160_passedOnChars) hZ (hw _ (List.mem_of_getElem? (i := 85) rfl)) (hw _ (List.mem_of_getElem? (i := 2) rfl)) (by decide) (by decide)) q190a q190c (g := (mkF m 161 #[.val (.int p1), .val (.int p2), .val (.long q1), .second, .val (.long q2), .second, .val (.int (1 : Int32)), .val (.int (1 : Int32)), .val (.ref b160), .val (.int (1 : Int32)), .val (.int (1 : Int32)), .val (.int (1 : Int32)), .val (.int (1 : Int32)), .unset] [(.ref b160)])) rfl (by rw [hml]; rfl) (Steps.refl _) (argsL := []) (rest := []) (lenOf pd_6 rfl) rfl (by show 2 * 0 + _ ≤ _; exact Nat.le_of_eq rfl) (hb hby at_161) (fun _ _ => ⟨rfl, Kq188, (by decide : 2 + 0 ≤ _), (by decide : 15 + 0 ≤ _)⟩)
      dsimp only [Pt.U, Pt.locs, Pt.cells, Pt.slots] at X190 l190 y190 z190 st190 hQ190
      subst l190 y190 z190
      obtain ⟨rfl, Nq190, Kq190⟩ := hQ190
      replace NF := Fr.app NF Nq190
      clear Nq190
      refine WP.tr st190 ?_
      clear st190
      replace Kq190 := Kq190.trans (rfl : h178 = h178)
      show WP p.tables e below _ T190 (mkF m 164 #[.val (.int p1), .val (.int p2), .val (.long q1), .second, .val (.long q2), .second, .val (.int (1 : Int32)), .val (.int (1 : Int32)), .val (.ref b160), .val (.int (1 : Int32)), .val (.int (1 : Int32)), .val (.int (1 : Int32)), .val (.int (1 : Int32)), .unset] [(.long q2)])
      have bk191 : ∀ t, Steps p.tables e below (T190.setTop (mkF m 207 #[.val (.int p1), .val (.int p2), .val (.long q1), .second, .val (.long q2), .second, .val (.int (1 : Int32)), .val (.int (1 : Int32)), .val (.ref b160), .val (.int (1 : Int32)), .val (.int (1 : Int32)), .val (.int (1 : Int32)), .val (.int (1 : Int32)), .val (.int (1 : Int32))] [(.int (1 : Int32))])) t → Steps p.tables e below (T190.setTop (mkF m 164 #[.val (.int p1), .val (.int p2), .val (.long q1), .second, .val (.long q2), .second, .val (.int (1 : Int32)), .val (.int (1 : Int32)), .val (.ref b160), .val (.int (1 : Int32)), .val (.int (1 : Int32)), .val (.int (1 : Int32)), .val (.int (1 : Int32)), .unset] [(.long q2)])) t := fun t k => by
        refine XS.lload X190.here hx rfl (hb hby at_164) rfl ?_
        show Steps p.tables e below (T190.setTop (mkF m 166 #[.val (.int p1), .val (.int p2), .val (.long q1), .second, .val (.long q2), .second, .val (.int (1 : Int32)), .val (.int (1 : Int32)), .val (.ref b160), .val (.int (1 : Int32)), .val (.int (1 : Int32)), .val (.int (1 : Int32)), .val (.int (1 : Int32)), .unset] [(.long q2), (.long q2)])) t
        refine XS.lcmp X190.here hx rfl (hb hby at_166) rfl ?_
        show Steps p.tables e below (T190.setTop (mkF m 167 #[.val (.int p1), .val (.int p2), .val (.long q1), .second, .val (.long q2), .second, .val (.int (1 : Int32)), .val (.int (1 : Int32)), .val (.ref b160), .val (.int (1 : Int32)), .val (.int (1 : Int32)), .val (.int (1 : Int32)), .val (.int (1 : Int32)), .unset] [(.int (lcmpW q2 q2))])) t
        refine XS.ifNo X190.here hx rfl (hb hby at_167) rfl ((if0 _ _).trans (teq ((lw_eq _ _).2 rfl)).2) ?_
        show Steps p.tables e below (T190.setTop (mkF m 170 #[.val (.int p1), .val (.int p2), .val (.long q1), .second, .val (.long q2), .second, .val (.int (1 : Int32)), .val (.int (1 : Int32)), .val (.ref b160), .val (.int (1 : Int32)), .val (.int (1 : Int32)), .val (.int (1 : Int32)), .val (.int (1 : Int32)), .unset] [])) t
        refine XS.iconst X190.here hx rfl (hb hby at_170) ?_
        show Steps p.tables e below (T190.setTop (mkF m 171 #[.val (.int p1), .val (.int p2), .val (.long q1), .second, .val (.long q2), .second, .val (.int (1 : Int32)), .val (.int (1 : Int32)), .val (.ref b160), .val (.int (1 : Int32)), .val (.int (1 : Int32)), .val (.int (1 : Int32)), .val (.int (1 : Int32)), .unset] [(.int (1 : Int32))])) t
        refine XS.goto X190.here hx rfl (pc0 := 171) (pc' := 175) rfl (hb hby at_171) (by decide) (by decide) ?_
        show Steps p.tables e below (T190.setTop (mkF m 175 #[.val (.int p1), .val (.int p2), .val (.long q1), .second, .val (.long q2), .second, .val (.int (1 : Int32)), .val (.int (1 : Int32)), .val (.ref b160), .val (.int (1 : Int32)), .val (.int (1 : Int32)), .val (.int (1 : Int32)), .val (.int (1 : Int32)), .unset] [(.int (1 : Int32))])) t
        refine XS.istore X190.here hx rfl (hb hby at_175) rfl (l' := #[.val (.int p1), .val (.int p2), .val (.long q1), .second, .val (.long q2), .second, .val (.int (1 : Int32)), .val (.int (1 : Int32)), .val (.ref b160), .val (.int (1 : Int32)), .val (.int (1 : Int32)), .val (.int (1 : Int32)), .val (.int (1 : Int32)), .val (.int (1 : Int32))]) rfl ?_
        show Steps p.tables e below (T190.setTop (mkF m 177 #[.val (.int p1), .val (.int p2), .val (.long q1), .second, .val (.long q2), .second, .val (.int (1 : Int32)), .val (.int (1 : Int32)), .val (.ref b160), .val (.int (1 : Int32)), .val (.int (1 : Int32)), .val (.int (1 : Int32)), .val (.int (1 : Int32)), .val (.int (1 : Int32))] [])) t
        refine XS.iload X190.here hx rfl (hb hby at_177) rfl ?_
        show Steps p.tables e below (T190.setTop (mkF m 179 #[.val (.int p1), .val (.int p2), .val (.long q1), .second, .val (.long q2), .second, .val (.int (1 : Int32)), .val (.int (1 : Int32)), .val (.ref b160), .val (.int (1 : Int32)), .val (.int (1 : Int32)), .val (.int (1 : Int32)), .val (.int (1 : Int32)), .val (.int (1 : Int32))] [(.int (1 : Int32))])) t
        refine XS.ifNo X190.here hx rfl (hb hby at_179) rfl ((if0 _ _).trans (feq (by decide : ¬ ((1 : Int32) = (0 : Int32)))).1) ?_
        show Steps p.tables e below (T190.setTop (mkF m 182 #[.val (.int p1), .val (.int p2), .val (.long q1), .second, .val (.long q2), .second, .val (.int (1 : Int32)), .val (.int (1 : Int32)), .val (.ref b160), .val (.int (1 : Int32)), .val (.int (1 : Int32)), .val (.int (1 : Int32)), .val (.int (1 : Int32)), .val (.int (1 : Int32))] [])) t
        refine XS.iload X190.here hx rfl (hb hby at_182) rfl ?_
        show Steps p.tables e below (T190.setTop (mkF m 184 #[.val (.int p1), .val (.int p2), .val (.long q1), .second, .val (.long q2), .second, .val (.int (1 : Int32)), .val (.int (1 : Int32)), .val (.ref b160), .val (.int (1 : Int32)), .val (.int (1 : Int32)), .val (.int (1 : Int32)), .val (.int (1 : Int32)), .val (.int (1 : Int32))] [(.int (1 : Int32))])) t
        refine XS.ifNo X190.here hx rfl (hb hby at_184) rfl ((if0 _ _).trans (feq (by decide : ¬ ((1 : Int32) = (0 : Int32)))).1) ?_
        show Steps p.tables e below (T190.setTop (mkF m 187 #[.val (.int p1), .val (.int p2), .val (.long q1), .second, .val (.long q2), .second, .val (.int (1 : Int32)), .val (.int (1 : Int32)), .val (.ref b160), .val (.int (1 : Int32)), .val (.int (1 : Int32)), .val (.int (1 : Int32)), .val (.int (1 : Int32)), .val (.int (1 : Int32))] [])) t
        refine XS.iload X190.here hx rfl (hb hby at_187) rfl ?_
        show Steps p.tables e below (T190.setTop (mkF m 189 #[.val (.int p1), .val (.int p2), .val (.long q1), .second, .val (.long q2), .second, .val (.int (1 : Int32)), .val (.int (1 : Int32)), .val (.ref b160), .val (.int (1 : Int32)), .val (.int (1 : Int32)), .val (.int (1 : Int32)), .val (.int (1 : Int32)), .val (.int (1 : Int32))] [(.int (1 : Int32))])) t
        refine XS.ifNo X190.here hx rfl (hb hby at_189) rfl ((if0 _ _).trans (feq (by decide : ¬ ((1 : Int32) = (0 : Int32)))).1) ?_
        show Steps p.tables e below (T190.setTop (mkF m 192 #[.val (.int p1), .val (.int p2), .val (.long q1), .second, .val (.long q2), .second, .val (.int (1 : Int32)), .val (.int (1 : Int32)), .val (.ref b160), .val (.int (1 : Int32)), .val (.int (1 : Int32)), .val (.int (1 : Int32)), .val (.int (1 : Int32)), .val (.int (1 : Int32))] [])) t
        refine XS.iload X190.here hx rfl (hb hby at_192) rfl ?_
        show Steps p.tables e below (T190.setTop (mkF m 194 #[.val (.int p1), .val (.int p2), .val (.long q1), .second, .val (.long q2), .second, .val (.int (1 : Int32)), .val (.int (1 : Int32)), .val (.ref b160), .val (.int (1 : Int32)), .val (.int (1 : Int32)), .val (.int (1 : Int32)), .val (.int (1 : Int32)), .val (.int (1 : Int32))] [(.int (1 : Int32))])) t
        refine XS.ifNo X190.here hx rfl (hb hby at_194) rfl ((if0 _ _).trans (feq (by decide : ¬ ((1 : Int32) = (0 : Int32)))).1) ?_
        show Steps p.tables e below (T190.setTop (mkF m 197 #[.val (.int p1), .val (.int p2), .val (.long q1), .second, .val (.long q2), .second, .val (.int (1 : Int32)), .val (.int (1 : Int32)), .val (.ref b160), .val (.int (1 : Int32)), .val (.int (1 : Int32)), .val (.int (1 : Int32)), .val (.int (1 : Int32)), .val (.int (1 : Int32))] [])) t
        refine XS.iload X190.here hx rfl (hb hby at_197) rfl ?_
        show Steps p.tables e below (T190.setTop (mkF m 199 #[.val (.int p1), .val (.int p2), .val (.long q1), .second, .val (.long q2), .second, .val (.int (1 : Int32)), .val (.int (1 : Int32)), .val (.ref b160), .val (.int (1 : Int32)), .val (.int (1 : Int32)), .val (.int (1 : Int32)), .val (.int (1 : Int32)), .val (.int (1 : Int32))] [(.int (1 : Int32))])) t
        refine XS.ifNo X190.here hx rfl (hb hby at_199) rfl ((if0 _ _).trans (feq (by decide : ¬ ((1 : Int32) = (0 : Int32)))).1) ?_
        show Steps p.tables e below (T190.setTop (mkF m 202 #[.val (.int p1), .val (.int p2), .val (.long q1), .second, .val (.long q2), .second, .val (.int (1 : Int32)), .val (.int (1 : Int32)), .val (.ref b160), .val (.int (1 : Int32)), .val (.int (1 : Int32)), .val (.int (1 : Int32)), .val (.int (1 : Int32)), .val (.int (1 : Int32))] [])) t
        refine XS.iconst X190.here hx rfl (hb hby at_202) ?_
        show Steps p.tables e below (T190.setTop (mkF m 203 #[.val (.int p1), .val (.int p2), .val (.long q1), .second, .val (.long q2), .second, .val (.int (1 : Int32)), .val (.int (1 : Int32)), .val (.ref b160), .val (.int (1 : Int32)), .val (.int (1 : Int32)), .val (.int (1 : Int32)), .val (.int (1 : Int32)), .val (.int (1 : Int32))] [(.int (1 : Int32))])) t
        refine XS.goto X190.here hx rfl (pc0 := 203) (pc' := 207) rfl (hb hby at_203) (by decide) (by decide) ?_
        exact k
      refine WP.st bk191 ?_
      clear bk191
      subst hG
      obtain ⟨fs, hr, hrun, hended, hW, hsame⟩ := X190.leave (v := some (.int (1 : Int32))) (fun h => by rw [Bd.returns] at h; cases h)
      refine WP.fin ⟨_, _, ?_, hrun, hended, _, _, rfl, ?_, ⟨_, rfl⟩, hW, hsame.mono (by decide) (by decide)⟩
      · exact retN X190 hx (t := .boolean) Bd.returns (by simp) (hb hby at_207) hr
      · show Q0 Z p1 p2 q1 q2 h0 n0 _ T190.heap _
        rw [Kq190]
        exact ⟨rfl, NF⟩
set_option maxRecDepth 65536 in
set_option maxHeartbeats 40000000 in
theorem comes_1 {Post : Tables → Env → Array Value → State → Outcome → State → Prop} (hpost : ∀ tb e args s v u, (limb_1_1.after args s (.returned v) u = true ∧ limb_1_2.after args s (.returned v) u = true ∧ True) → FrameEnd s (.returned v) u (Jvm.fieldLocs frame_1_writes args s ++ Jvm.arrayLocs frame_1_arrays args s ++ Jvm.staticLocs frame_1_statics s) 16 128 → Post tb e args s (.returned v) u) :
    ArmFor flags0 classFile x code maxLocals ret World_1 tables_1 room_1 Calls_1 rest_1 Pre_1 Post := by
  intro l hfl _ _ p e ha hc hk s m args below hf hA hF happ hP
  obtain ⟨hcalls, hrest, hpre⟩ := hP
  obtain ⟨-, -, -, hnamed, -, -, -, hat⟩ := (Spec.applies_iff hf).mp happ
  obtain ⟨hg, hn⟩ := and_e (Cond.before_iff.mp (show (Jvm.Cond.and given_1 narrow_1).before args s = true from hpre))
  obtain ⟨gg1, gg2⟩ := and_e hg
  obtain ⟨gg3, gg4⟩ := and_e gg2
  obtain ⟨gg5, gg6⟩ := and_e gg4
  obtain ⟨gg7, gg8⟩ := and_e gg6
  obtain ⟨w0, w1, w2, w3, rfl⟩ : ∃ w0 w1 w2 w3 : Value, args = #[w0, w1, w2, w3] := by
    have hs : args.size = 4 := by simpa [Cond.value, given_1] using gg1
    obtain ⟨L⟩ := args
    match L, hs with
    | [w0, w1, w2, w3], _ => exact ⟨w0, w1, w2, w3, rfl⟩
  have hw := fun d (hd : d ∈ tables_1) => atoms_spec (ws := Jvm.Cond.code x code maxLocals ret :: tables_1) hat d (List.mem_cons_of_mem _ hd)
  have hfit : Fit s := fun {y c} hc i hi => by
    obtain ⟨ha, rfl⟩ := Array.getElem?_eq_some_iff.mp hc
    have q := List.all_eq_true.mp ((Array.all_eq_true_iff_forall_mem.mp hF) _ (Array.getElem_mem ha)) i (List.mem_range.mpr hi)
    simpa [Array.getElem?_eq_getElem hi] using q
  obtain ⟨i0, ei0⟩ := is_v gg3
  obtain rfl : w0 = (.int i0) := Option.some.inj ei0
  obtain ⟨i1, ei1⟩ := is_v gg5
  obtain rfl : w1 = (.int i1) := Option.some.inj ei1
  obtain ⟨i2, ei2⟩ := isL_v gg7
  obtain rfl : w2 = (.long i2) := Option.some.inj ei2
  obtain ⟨i3, ei3⟩ := isL_v gg8
  obtain rfl : w3 = (.long i3) := Option.some.inj ei3
  obtain ⟨n, o, h1, h2, h3, _, L, rfl, ⟨rfl, N⟩, hq⟩ := rm0 l s _ hw tables_1 i0 i1 i2 i3 s.heap s.heap.size (Nat.le_refl _)  p e ha hc hk s m _ below hf ((Spec.applies_iff_loose hf).mp happ).1 ⟨rfl, State.Warmed39.refl s, rfl⟩ trivial
  refine ⟨n, _, h1, h2, h3, hpost _ _ _ _ _ _ ⟨Cond.after_iff.mpr rfl, Cond.after_iff.mpr (eq_i res_at (Term.int_eval (1)) rfl), trivial⟩ ⟨hq.1, hq.2.1, (hq.2.2.sift fun y hy => Or.inr (N y hy)).mono (by decide) (by decide)⟩⟩
theorem main_1_1 : Claimed_1_1 := comes_1 fun _ _ _ _ _ _ h hF => ⟨h.1, hF⟩
theorem main_1_2 : Claimed_1_2 := comes_1 fun _ _ _ _ _ _ h hF => ⟨h.2.1, hF⟩
end Jvm.Pilot.@@N@@
namespace Jvm.Pilot.@@N@@
open Jvm Jvm.ClassFile Sem Op Lib Jvm.Free Jvm.Stand Jvm.Pilot.@@N@@.Jvm.D
/-! MADE BY PROGRAM (witnessworld.py) out of the Statement's table words and the real class files: 10 classes; the members and pool entries that the words name. The judged class is class 1, her method 1. -/
namespace start1
open Jvm.ClassFile
def u (s : String) : CpInfo := .utf8 (stringToUtf16 s)
/-- a pool by its gaps: so many unusable entries, then the entry; so many at the end -/
def gap : Nat → List CpInfo → List CpInfo
  | 0, r => r
  | n + 1, r => .unusable :: gap n r
def poolList (es : List (Nat × CpInfo)) (last : Nat) : List CpInfo := es.foldr (fun e r => gap e.1 (e.2 :: r)) (gap last [])
def pool (es : List (Nat × CpInfo)) (last : Nat) : Array CpInfo := ⟨poolList es last⟩
def fileOf (pool : Array CpInfo) (this : Nat) (attrs : Array Attribute := #[]) (ms : Array MethodInfo := #[]) (fl : Nat := 33) (sup : Nat := 0) (ifs : Array Nat := #[]) (fds : Array FieldInfo := #[]) : ClassFile where
  minorVersion := 0
  majorVersion := 65
  constantPool := pool
  accessFlags := fl
  thisClass := this
  superClass := sup
  interfaces := ifs
  fields := fds
  methods := ms
  attributes := attrs
def plain (name : String) (sup : Option ClassId) : Class where
  name := name
  kind := .ordinary
  loader := none
  accessFlags := 33
  super := sup
  interfaces := #[]
  cf := none
  fields := #[]
  methods := #[]
  instanceTypes := #[]
  staticTypes := #[]
  resolved := #[]
  callSites := []
  init := .initialized
  statics := none
  mirror := none

def pool0 : Array CpInfo := pool [(5, u "<init>"), (0, u "()V"), (1, .class_ 10), (1, u "java/lang/Object")] 113

def k0c0 : Code := { maxStack := 0, maxLocals := 1, code := object_method_1_code, exceptionTable := #[], attributes := #[] }
def k0m0 : Method := { name := "<init>", desc := "()V", sig := { parameters := [], returnType := none }, accessFlags := 1, code := some k0c0 }
/-- java/lang/Object -/
def k0 : Class := { plain "java/lang/Object" none with
  accessFlags := 33
  interfaces := #[]
  cf := some (fileOf pool0 8 #[] #[{ accessFlags := 1, nameIndex := 5, descriptorIndex := 6, attributes := #[] }] 33 0 #[] #[])
  fields := #[]
  methods := #[k0m0]
  instanceTypes := #[]
  staticTypes := #[]
  resolved := Array.replicate 124 none
  statics := none }

def pool1 : Array CpInfo := pool [(2, .class_ 4), (0, .nameAndType 5 6), (0, u "java/lang/Object"), (0, u "<init>"), (0, u "()V"), (0, .class_ 8), (0, u "com/example/skope/skope/xml/Intake"), (0, .methodref 7 3), (0, .methodref 7 11), (0, .nameAndType 12 13), (0, u "dropsNames"), (0, u "()Z"), (0, .methodref 7 15), (0, .nameAndType 16 17), (0, u "addNesting"), (0, u "(I)V"), (0, .methodref 7 19), (0, .nameAndType 20 21), (0, u "passOn"), (0, u "(JJ)V"), (0, .methodref 7 23), (0, .nameAndType 24 25), (0, u "dropNames"), (0, u "(Z)V"), (0, .methodref 7 27), (0, .nameAndType 28 6), (0, u "clear"), (0, .methodref 7 30), (0, .nameAndType 31 32), (0, u "declaringBytes"), (0, u "()J"), (0, .methodref 7 34), (0, .nameAndType 35 36), (0, u "nesting"), (0, u "()I"), (0, .methodref 38 39), (0, .class_ 40), (0, .nameAndType 41 42), (0, u "java/lang/Math"), (0, u "max"), (0, u "(II)I"), (0, .methodref 7 44), (0, .nameAndType 45 32), (0, u "passedOnDeclarations"), (0, .methodref 7 47), (0, .nameAndType 48 32), (0, u "passedOnChars"), (0, .class_ 50), (0, u "com/example/skope/skope/xml/IntakeDropNamesPinLaw"), (2, u "law"), (0, u "(IIJJ)Z")] 3

def k1m0 : Method := { name := "<init>", desc := "()V", sig := { parameters := [], returnType := none }, accessFlags := 1, code := none }
def k1c1 : Code := { maxStack := 5, maxLocals := 14, code := code, exceptionTable := #[], attributes := #[] }
def k1m1 : Method := { name := "law", desc := "(IIJJ)Z", sig := { parameters := [.int, .int, .long, .long], returnType := some .boolean }, accessFlags := 9, code := some k1c1 }
/-- com/example/skope/skope/xml/IntakeDropNamesPinLaw -/
def k1 : Class := { plain "com/example/skope/skope/xml/IntakeDropNamesPinLaw" (some 0) with
  accessFlags := 49
  interfaces := #[]
  cf := some (fileOf pool1 49 #[] #[{ accessFlags := 1, nameIndex := 5, descriptorIndex := 6, attributes := #[] }, { accessFlags := 9, nameIndex := 53, descriptorIndex := 54, attributes := #[] }] 49 2 #[] #[])
  fields := #[]
  methods := #[k1m0, k1m1]
  instanceTypes := #[]
  staticTypes := #[]
  resolved := Array.replicate 58 none
  statics := none }

def pool2 : Array CpInfo := pool [(1, .methodref 2 3), (0, .class_ 4), (0, .nameAndType 5 6), (0, u "java/lang/Object"), (0, u "<init>"), (0, u "()V"), (0, .fieldref 8 9), (0, .class_ 10), (0, .nameAndType 11 12), (0, u "com/example/skope/skope/xml/Intake"), (0, u "longestValues"), (0, u "[I"), (0, .fieldref 8 14), (0, .nameAndType 15 16), (0, u "dropsNames"), (0, u "Z"), (0, .class_ 18), (0, u "com/example/skope/skope/xml/Intake$CountedStream"), (3, .fieldref 8 23), (0, .nameAndType 24 16), (0, u "started"), (2, u "longestStretch"), (0, u "J"), (6, u "valueChars"), (17, u "()I"), (0, .methodref 55 56), (0, .class_ 57), (0, .nameAndType 58 59), (0, u "java/lang/Math"), (0, u "max"), (0, u "(II)I"), (0, .fieldref 8 61), (0, .nameAndType 62 63), (0, u "nesting"), (0, u "I"), (6, .fieldref 8 71), (0, .nameAndType 72 16), (0, u "internalParameterEntity"), (0, .fieldref 8 74), (0, .nameAndType 75 16), (0, u "internalGeneralEntity"), (0, .fieldref 8 77), (0, .nameAndType 78 16), (0, u "attributeList"), (0, .fieldref 8 80), (0, .nameAndType 81 16), (0, u "documentTypeDeclaration"), (0, .fieldref 8 83), (0, .nameAndType 84 28), (0, u "declaringBytes"), (0, .fieldref 8 86), (0, .nameAndType 87 28), (0, u "passedOnDeclarations"), (0, .fieldref 8 89), (0, .nameAndType 90 28), (0, u "passedOnChars"), (0, .fieldref 8 92), (0, .nameAndType 93 28), (0, u "bytes"), (0, .fieldref 8 95), (0, .nameAndType 96 28), (0, u "stretch"), (8, u "()J"), (4, u "addNesting"), (0, u "(I)V"), (4, u "()Z"), (1, u "passOn"), (0, u "(JJ)V"), (0, u "dropNames"), (0, u "(Z)V"), (0, u "clear")] 6

def k2c0 : Code := { maxStack := 2, maxLocals := 1, code := prog_26_method_1_code, exceptionTable := #[], attributes := #[] }
def k2m0 : Method := { name := "<init>", desc := "()V", sig := { parameters := [], returnType := none }, accessFlags := 0, code := some k2c0 }
def k2c1 : Code := { maxStack := 3, maxLocals := 2, code := prog_26_method_9_code, exceptionTable := #[], attributes := #[] }
def k2m1 : Method := { name := "addNesting", desc := "(I)V", sig := { parameters := [.int], returnType := none }, accessFlags := 0, code := some k2c1 }
def k2c2 : Code := { maxStack := 1, maxLocals := 1, code := prog_26_method_10_code, exceptionTable := #[], attributes := #[] }
def k2m2 : Method := { name := "nesting", desc := "()I", sig := { parameters := [], returnType := some .int }, accessFlags := 0, code := some k2c2 }
def k2c3 : Code := { maxStack := 2, maxLocals := 1, code := prog_26_method_15_code, exceptionTable := #[], attributes := #[] }
def k2m3 : Method := { name := "declaringBytes", desc := "()J", sig := { parameters := [], returnType := some .long }, accessFlags := 0, code := some k2c3 }
def k2c4 : Code := { maxStack := 3, maxLocals := 5, code := prog_26_method_16_code, exceptionTable := #[], attributes := #[] }
def k2m4 : Method := { name := "passOn", desc := "(JJ)V", sig := { parameters := [.long, .long], returnType := none }, accessFlags := 0, code := some k2c4 }
def k2c5 : Code := { maxStack := 2, maxLocals := 1, code := prog_26_method_17_code, exceptionTable := #[], attributes := #[] }
def k2m5 : Method := { name := "passedOnDeclarations", desc := "()J", sig := { parameters := [], returnType := some .long }, accessFlags := 0, code := some k2c5 }
def k2c6 : Code := { maxStack := 2, maxLocals := 1, code := prog_26_method_18_code, exceptionTable := #[], attributes := #[] }
def k2m6 : Method := { name := "passedOnChars", desc := "()J", sig := { parameters := [], returnType := some .long }, accessFlags := 0, code := some k2c6 }
def k2c7 : Code := { maxStack := 3, maxLocals := 2, code := prog_26_method_19_code, exceptionTable := #[], attributes := #[] }
def k2m7 : Method := { name := "dropNames", desc := "(Z)V", sig := { parameters := [.boolean], returnType := none }, accessFlags := 0, code := some k2c7 }
def k2c8 : Code := { maxStack := 1, maxLocals := 1, code := prog_26_method_20_code, exceptionTable := #[], attributes := #[] }
def k2m8 : Method := { name := "dropsNames", desc := "()Z", sig := { parameters := [], returnType := some .boolean }, accessFlags := 0, code := some k2c8 }
def k2c9 : Code := { maxStack := 5, maxLocals := 1, code := prog_26_method_21_code, exceptionTable := #[], attributes := #[] }
def k2m9 : Method := { name := "clear", desc := "()V", sig := { parameters := [], returnType := none }, accessFlags := 0, code := some k2c9 }
/-- com/example/skope/skope/xml/Intake -/
def k2 : Class := { plain "com/example/skope/skope/xml/Intake" (some 0) with
  accessFlags := 48
  interfaces := #[]
  cf := some (fileOf pool2 8 #[.nestMembers #[17]] #[{ accessFlags := 0, nameIndex := 5, descriptorIndex := 6, attributes := #[] }, { accessFlags := 0, nameIndex := 110, descriptorIndex := 111, attributes := #[] }, { accessFlags := 0, nameIndex := 62, descriptorIndex := 53, attributes := #[] }, { accessFlags := 0, nameIndex := 84, descriptorIndex := 105, attributes := #[] }, { accessFlags := 0, nameIndex := 118, descriptorIndex := 119, attributes := #[] }, { accessFlags := 0, nameIndex := 87, descriptorIndex := 105, attributes := #[] }, { accessFlags := 0, nameIndex := 90, descriptorIndex := 105, attributes := #[] }, { accessFlags := 0, nameIndex := 120, descriptorIndex := 121, attributes := #[] }, { accessFlags := 0, nameIndex := 15, descriptorIndex := 116, attributes := #[] }, { accessFlags := 0, nameIndex := 122, descriptorIndex := 6, attributes := #[] }] 48 2 #[] #[{ accessFlags := 2, nameIndex := 96, descriptorIndex := 28, attributes := #[] }, { accessFlags := 2, nameIndex := 24, descriptorIndex := 16, attributes := #[] }, { accessFlags := 2, nameIndex := 93, descriptorIndex := 28, attributes := #[] }, { accessFlags := 2, nameIndex := 75, descriptorIndex := 16, attributes := #[] }, { accessFlags := 2, nameIndex := 72, descriptorIndex := 16, attributes := #[] }, { accessFlags := 2, nameIndex := 78, descriptorIndex := 16, attributes := #[] }, { accessFlags := 2, nameIndex := 81, descriptorIndex := 16, attributes := #[] }, { accessFlags := 2, nameIndex := 27, descriptorIndex := 28, attributes := #[] }, { accessFlags := 2, nameIndex := 62, descriptorIndex := 63, attributes := #[] }, { accessFlags := 2, nameIndex := 11, descriptorIndex := 12, attributes := #[] }, { accessFlags := 2, nameIndex := 35, descriptorIndex := 28, attributes := #[] }, { accessFlags := 2, nameIndex := 84, descriptorIndex := 28, attributes := #[] }, { accessFlags := 2, nameIndex := 87, descriptorIndex := 28, attributes := #[] }, { accessFlags := 2, nameIndex := 90, descriptorIndex := 28, attributes := #[] }, { accessFlags := 2, nameIndex := 15, descriptorIndex := 16, attributes := #[] }])
  fields := #[{ name := "stretch", type := .long, accessFlags := 2, slot := 0, constantValue := 0 }, { name := "started", type := .boolean, accessFlags := 2, slot := 1, constantValue := 0 }, { name := "bytes", type := .long, accessFlags := 2, slot := 2, constantValue := 0 }, { name := "internalGeneralEntity", type := .boolean, accessFlags := 2, slot := 3, constantValue := 0 }, { name := "internalParameterEntity", type := .boolean, accessFlags := 2, slot := 4, constantValue := 0 }, { name := "attributeList", type := .boolean, accessFlags := 2, slot := 5, constantValue := 0 }, { name := "documentTypeDeclaration", type := .boolean, accessFlags := 2, slot := 6, constantValue := 0 }, { name := "longestStretch", type := .long, accessFlags := 2, slot := 7, constantValue := 0 }, { name := "nesting", type := .int, accessFlags := 2, slot := 8, constantValue := 0 }, { name := "longestValues", type := (.array .int), accessFlags := 2, slot := 9, constantValue := 0 }, { name := "valueChars", type := .long, accessFlags := 2, slot := 10, constantValue := 0 }, { name := "declaringBytes", type := .long, accessFlags := 2, slot := 11, constantValue := 0 }, { name := "passedOnDeclarations", type := .long, accessFlags := 2, slot := 12, constantValue := 0 }, { name := "passedOnChars", type := .long, accessFlags := 2, slot := 13, constantValue := 0 }, { name := "dropsNames", type := .boolean, accessFlags := 2, slot := 14, constantValue := 0 }]
  methods := #[k2m0, k2m1, k2m2, k2m3, k2m4, k2m5, k2m6, k2m7, k2m8, k2m9]
  instanceTypes := #[.long, .boolean, .long, .boolean, .boolean, .boolean, .boolean, .long, .int, (.array .int), .long, .long, .long, .long, .boolean]
  staticTypes := #[]
  resolved := Array.replicate 129 none
  statics := none }

def pool3 : Array CpInfo := pool [(1, .class_ 2), (0, u "java/lang/Math"), (1, .class_ 6), (1, u "java/lang/Object"), (0, u "<init>"), (0, u "()V"), (89, .class_ 100), (1, u "java/lang/Math$RandomNumberGeneratorHolder"), (71, u "negativeZeroFloatBits"), (0, u "J"), (2, u "negativeZeroDoubleBits"), (21, u "max"), (46, u "$assertionsDisabled"), (0, u "Z"), (88, u "(II)I"), (2, u "twoToTheDoubleScaleDown"), (0, u "D"), (4, u "twoToTheDoubleScaleUp"), (9, u "E"), (3, u "PI"), (2, u "TAU"), (2, u "DEGREES_TO_RADIANS"), (0, u "RADIANS_TO_DEGREES")] 94

def k3m0 : Method := { name := "<init>", desc := "()V", sig := { parameters := [], returnType := none }, accessFlags := 2, code := none }
def k3c1 : Code := { maxStack := 2, maxLocals := 2, code := jdk_29_method_65_code, exceptionTable := #[], attributes := #[] }
def k3m1 : Method := { name := "max", desc := "(II)I", sig := { parameters := [.int, .int], returnType := some .int }, accessFlags := 9, code := some k3c1 }
/-- java/lang/Math -/
def k3 : Class := { plain "java/lang/Math" (some 0) with
  accessFlags := 49
  interfaces := #[]
  cf := some (fileOf pool3 1 #[.nestMembers #[98]] #[{ accessFlags := 2, nameIndex := 7, descriptorIndex := 8, attributes := #[] }, { accessFlags := 9, nameIndex := 198, descriptorIndex := 335, attributes := #[] }] 49 4 #[] #[{ accessFlags := 25, nameIndex := 354, descriptorIndex := 339, attributes := #[] }, { accessFlags := 25, nameIndex := 358, descriptorIndex := 339, attributes := #[] }, { accessFlags := 25, nameIndex := 361, descriptorIndex := 339, attributes := #[] }, { accessFlags := 26, nameIndex := 364, descriptorIndex := 339, attributes := #[] }, { accessFlags := 26, nameIndex := 365, descriptorIndex := 339, attributes := #[] }, { accessFlags := 26, nameIndex := 172, descriptorIndex := 173, attributes := #[] }, { accessFlags := 26, nameIndex := 176, descriptorIndex := 173, attributes := #[] }, { accessFlags := 8, nameIndex := 344, descriptorIndex := 339, attributes := #[] }, { accessFlags := 8, nameIndex := 338, descriptorIndex := 339, attributes := #[] }, { accessFlags := 4120, nameIndex := 245, descriptorIndex := 246, attributes := #[] }])
  fields := #[{ name := "E", type := .double, accessFlags := 25, slot := 0, constantValue := 0 }, { name := "PI", type := .double, accessFlags := 25, slot := 1, constantValue := 0 }, { name := "TAU", type := .double, accessFlags := 25, slot := 2, constantValue := 0 }, { name := "DEGREES_TO_RADIANS", type := .double, accessFlags := 26, slot := 3, constantValue := 0 }, { name := "RADIANS_TO_DEGREES", type := .double, accessFlags := 26, slot := 4, constantValue := 0 }, { name := "negativeZeroFloatBits", type := .long, accessFlags := 26, slot := 5, constantValue := 0 }, { name := "negativeZeroDoubleBits", type := .long, accessFlags := 26, slot := 6, constantValue := 0 }, { name := "twoToTheDoubleScaleUp", type := .double, accessFlags := 8, slot := 7, constantValue := 0 }, { name := "twoToTheDoubleScaleDown", type := .double, accessFlags := 8, slot := 8, constantValue := 0 }, { name := "$assertionsDisabled", type := .boolean, accessFlags := 4120, slot := 9, constantValue := 0 }]
  methods := #[k3m0, k3m1]
  instanceTypes := #[]
  staticTypes := #[.double, .double, .double, .double, .double, .long, .long, .double, .double, .boolean]
  resolved := Array.replicate 460 none
  statics := none }

def pool4 : Array CpInfo := pool [(1, u "java/lang/Cloneable"), (0, .class_ 1), (0, u "java/lang/Object"), (0, .class_ 3)] 3

/-- java/lang/Cloneable -/
def k4 : Class := { plain "java/lang/Cloneable" (some 0) with
  accessFlags := 1537
  interfaces := #[]
  cf := some (fileOf pool4 2 #[] #[] 1537 4 #[] #[])
  fields := #[]
  methods := #[]
  instanceTypes := #[]
  staticTypes := #[]
  resolved := Array.replicate 8 none
  statics := none }

def pool5 : Array CpInfo := pool [(1, u "java/io/Serializable"), (0, .class_ 1), (0, u "java/lang/Object"), (0, .class_ 3)] 3

/-- java/io/Serializable -/
def k5 : Class := { plain "java/io/Serializable" (some 0) with
  accessFlags := 1537
  interfaces := #[]
  cf := some (fileOf pool5 2 #[] #[] 1537 4 #[] #[])
  fields := #[]
  methods := #[]
  instanceTypes := #[]
  staticTypes := #[]
  resolved := Array.replicate 8 none
  statics := none }

/-- the primitive byte -/
def k6 : Class := { plain "byte" none with kind := .primitive 'B', accessFlags := 0x411 }
/-- [B -/
def k7 : Class := { plain "[B" (some 0) with kind := .array 6 .byte, interfaces := #[4, 5], accessFlags := 1041 }

/-- the primitive int -/
def k8 : Class := { plain "int" none with kind := .primitive 'I', accessFlags := 0x411 }
/-- [I -/
def k9 : Class := { plain "[I" (some 0) with kind := .array 8 .int, interfaces := #[4, 5], accessFlags := 1041 }

def heap : Heap := #[]
def classes : Array Class := #[k0, k1, k2, k3, k4, k5, k6, k7, k8, k9]
def interned : List (Array UInt16 × Addr) := []
def slotsUsed : Nat := 0
def theMethod : MethodId := ⟨1, 1⟩
def args0 : Array Value := #[.int 1, .int 3, .long 9, .long 11]
def aboutOver (below : List Frame) : State where
  vm := { classes := classes, interned := interned.toArray }
  heap := heap
  slotsUsed := slotsUsed
  threads := #[{ frames := .invoking theMethod args0 :: below }]
def below0 : List Frame := [.native { method := ⟨0, 0⟩, args := #[] }]
def about1 : State := aboutOver below0
def p0 : Program := .bare "" "" ""
def e0 : Env := launch0.env 0 0 0
theorem w_frames : about1.frames = Frame.invoking theMethod args0 :: below0 := rfl
set_option maxRecDepth 65536 in
theorem w_args : argsFit about1.vm theMethod args0 = true := by decide +kernel
set_option maxRecDepth 65536 in
theorem w_heap : heapFits about1 = true := by decide +kernel
set_option maxRecDepth 65536 in
theorem w_runnable : about1.curStatus? = some .runnable := by decide +kernel
set_option maxRecDepth 65536 in
theorem w_alone : about1.alone = true := by decide +kernel
set_option maxRecDepth 65536 in
theorem w_named : about1.methodNamed? x = some theMethod := by decide +kernel
set_option maxRecDepth 65536 in
theorem w_hears : about1.hears theMethod below0 = true := by decide +kernel
set_option maxRecDepth 65536 in
theorem w_ripe : about1.ripe theMethod args0 below0 = true := by decide +kernel
theorem w_running : about1.status = .running := rfl
set_option maxRecDepth 65536 in
theorem w_room : about1.hasRoom e0.platform room_1 = true :=
  launch0.hasRoom_least _ room_1 (by decide +kernel) (by decide +kernel) (by decide +kernel) (by decide +kernel) (by decide +kernel) (by decide +kernel)
theorem allAtoms_all (ts : List Jvm.Cond) (a : Array Jvm.Value) (st : Jvm.State) : (allAtoms ts).before a st = ts.all (fun c => c.before a st) := by
  induction ts with
  | nil => rfl
  | cons c t ih =>
    show (Jvm.Cond.and c (allAtoms t)).before a st = _
    rw [Jvm.Cond.before_and, ih, List.all_cons]
def words1 : List Jvm.Cond := Jvm.Cond.code x code maxLocals ret :: tables_1
/-- a 'code' word, met by the world's own term for the bytes: nothing is compared byte by byte -/
theorem code_word {y : MethodName} {bytes : ByteArray} {mx : Nat} {rt : Option FieldType} {a : Array Value} {s : State} {m : MethodId} {meth : Method} {c : Code} (h1 : s.methodNamed? y = some m) (h2 : s.vm.method? m = some meth) (h3 : meth.code = some c) (h4 : c.code = bytes)
    (h5 : (c.maxLocals == mx && c.exceptionTable.isEmpty && decide (c.maxStack ≤ mostOperands) && decide (meth.sig.returnType = rt) && !meth.locks && decide (parseMethodDescriptor y.desc = some meth.sig)) = true) : (Jvm.Cond.code y bytes mx rt).before a s = true := by
  simp only [Bool.and_eq_true, beq_iff_eq, Bool.not_eq_true', decide_eq_true_eq] at h5
  obtain ⟨⟨⟨⟨⟨g1, g2⟩, g3⟩, g4⟩, g5⟩, g6⟩ := h5
  simp [Cond.before, Cond.holds, Cond.value, h1, h2, h3, h4, g1, g2, g3, g4, g5, g6]
def isCode : Jvm.Cond → Bool
  | .code _ _ _ _ => true
  | _ => false
theorem all_split {L : List Jvm.Cond} {P : Jvm.Cond → Bool} (h1 : L.all (fun c => isCode c || P c) = true) (h2 : ∀ c ∈ L.filter isCode, P c = true) : L.all P = true := by
  refine List.all_eq_true.mpr fun c hc => ?_
  have h := List.all_eq_true.mp h1 c hc
  rcases Bool.eq_false_or_eq_true (isCode c) with hi | hi
  · exact h2 c (List.mem_filter.mpr ⟨hc, hi⟩)
  · simpa [hi] using h
set_option maxRecDepth 65536 in
theorem w_c0 : (Jvm.Cond.code x code maxLocals ret).before args0 about1 = true := code_word (m := ⟨1, 1⟩) (meth := k1m1) (c := k1c1) (by decide +kernel) rfl rfl rfl (by decide +kernel)
set_option maxRecDepth 65536 in
theorem w_c1 : (Jvm.Cond.code ({ cls := "com/example/skope/skope/xml/Intake", name := "<init>", desc := "()V" } : Jvm.MethodName) prog_26_method_1_code (1 : Nat) (Option.none : Option Jvm.ClassFile.FieldType)).before args0 about1 = true := code_word (m := ⟨2, 0⟩) (meth := k2m0) (c := k2c0) (by decide +kernel) rfl rfl rfl (by decide +kernel)
set_option maxRecDepth 65536 in
theorem w_c2 : (Jvm.Cond.code ({ cls := "java/lang/Object", name := "<init>", desc := "()V" } : Jvm.MethodName) object_method_1_code (1 : Nat) (Option.none : Option Jvm.ClassFile.FieldType)).before args0 about1 = true := code_word (m := ⟨0, 0⟩) (meth := k0m0) (c := k0c0) (by decide +kernel) rfl rfl rfl (by decide +kernel)
set_option maxRecDepth 65536 in
theorem w_c3 : (Jvm.Cond.code ({ cls := "com/example/skope/skope/xml/Intake", name := "dropsNames", desc := "()Z" } : Jvm.MethodName) prog_26_method_20_code (1 : Nat) (Option.some Jvm.ClassFile.FieldType.boolean)).before args0 about1 = true := code_word (m := ⟨2, 8⟩) (meth := k2m8) (c := k2c8) (by decide +kernel) rfl rfl rfl (by decide +kernel)
set_option maxRecDepth 65536 in
theorem w_c4 : (Jvm.Cond.code ({ cls := "com/example/skope/skope/xml/Intake", name := "addNesting", desc := "(I)V" } : Jvm.MethodName) prog_26_method_9_code (2 : Nat) (Option.none : Option Jvm.ClassFile.FieldType)).before args0 about1 = true := code_word (m := ⟨2, 1⟩) (meth := k2m1) (c := k2c1) (by decide +kernel) rfl rfl rfl (by decide +kernel)
set_option maxRecDepth 65536 in
theorem w_c5 : (Jvm.Cond.code ({ cls := "java/lang/Math", name := "max", desc := "(II)I" } : Jvm.MethodName) jdk_29_method_65_code (2 : Nat) (Option.some Jvm.ClassFile.FieldType.int)).before args0 about1 = true := code_word (m := ⟨3, 1⟩) (meth := k3m1) (c := k3c1) (by decide +kernel) rfl rfl rfl (by decide +kernel)
set_option maxRecDepth 65536 in
theorem w_c6 : (Jvm.Cond.code ({ cls := "com/example/skope/skope/xml/Intake", name := "passOn", desc := "(JJ)V" } : Jvm.MethodName) prog_26_method_16_code (5 : Nat) (Option.none : Option Jvm.ClassFile.FieldType)).before args0 about1 = true := code_word (m := ⟨2, 4⟩) (meth := k2m4) (c := k2c4) (by decide +kernel) rfl rfl rfl (by decide +kernel)
set_option maxRecDepth 65536 in
theorem w_c7 : (Jvm.Cond.code ({ cls := "com/example/skope/skope/xml/Intake", name := "dropNames", desc := "(Z)V" } : Jvm.MethodName) prog_26_method_19_code (2 : Nat) (Option.none : Option Jvm.ClassFile.FieldType)).before args0 about1 = true := code_word (m := ⟨2, 7⟩) (meth := k2m7) (c := k2c7) (by decide +kernel) rfl rfl rfl (by decide +kernel)
set_option maxRecDepth 65536 in
theorem w_c8 : (Jvm.Cond.code ({ cls := "com/example/skope/skope/xml/Intake", name := "clear", desc := "()V" } : Jvm.MethodName) prog_26_method_21_code (1 : Nat) (Option.none : Option Jvm.ClassFile.FieldType)).before args0 about1 = true := code_word (m := ⟨2, 9⟩) (meth := k2m9) (c := k2c9) (by decide +kernel) rfl rfl rfl (by decide +kernel)
set_option maxRecDepth 65536 in
theorem w_c9 : (Jvm.Cond.code ({ cls := "com/example/skope/skope/xml/Intake", name := "declaringBytes", desc := "()J" } : Jvm.MethodName) prog_26_method_15_code (1 : Nat) (Option.some Jvm.ClassFile.FieldType.long)).before args0 about1 = true := code_word (m := ⟨2, 3⟩) (meth := k2m3) (c := k2c3) (by decide +kernel) rfl rfl rfl (by decide +kernel)
set_option maxRecDepth 65536 in
theorem w_c10 : (Jvm.Cond.code ({ cls := "com/example/skope/skope/xml/Intake", name := "nesting", desc := "()I" } : Jvm.MethodName) prog_26_method_10_code (1 : Nat) (Option.some Jvm.ClassFile.FieldType.int)).before args0 about1 = true := code_word (m := ⟨2, 2⟩) (meth := k2m2) (c := k2c2) (by decide +kernel) rfl rfl rfl (by decide +kernel)
set_option maxRecDepth 65536 in
theorem w_c11 : (Jvm.Cond.code ({ cls := "com/example/skope/skope/xml/Intake", name := "passedOnDeclarations", desc := "()J" } : Jvm.MethodName) prog_26_method_17_code (1 : Nat) (Option.some Jvm.ClassFile.FieldType.long)).before args0 about1 = true := code_word (m := ⟨2, 5⟩) (meth := k2m5) (c := k2c5) (by decide +kernel) rfl rfl rfl (by decide +kernel)
set_option maxRecDepth 65536 in
theorem w_c12 : (Jvm.Cond.code ({ cls := "com/example/skope/skope/xml/Intake", name := "passedOnChars", desc := "()J" } : Jvm.MethodName) prog_26_method_18_code (1 : Nat) (Option.some Jvm.ClassFile.FieldType.long)).before args0 about1 = true := code_word (m := ⟨2, 6⟩) (meth := k2m6) (c := k2c6) (by decide +kernel) rfl rfl rfl (by decide +kernel)
def codes1 : List Jvm.Cond := [Jvm.Cond.code x code maxLocals ret, Jvm.Cond.code ({ cls := "com/example/skope/skope/xml/Intake", name := "<init>", desc := "()V" } : Jvm.MethodName) prog_26_method_1_code (1 : Nat) (Option.none : Option Jvm.ClassFile.FieldType), Jvm.Cond.code ({ cls := "java/lang/Object", name := "<init>", desc := "()V" } : Jvm.MethodName) object_method_1_code (1 : Nat) (Option.none : Option Jvm.ClassFile.FieldType), Jvm.Cond.code ({ cls := "com/example/skope/skope/xml/Intake", name := "dropsNames", desc := "()Z" } : Jvm.MethodName) prog_26_method_20_code (1 : Nat) (Option.some Jvm.ClassFile.FieldType.boolean), Jvm.Cond.code ({ cls := "com/example/skope/skope/xml/Intake", name := "addNesting", desc := "(I)V" } : Jvm.MethodName) prog_26_method_9_code (2 : Nat) (Option.none : Option Jvm.ClassFile.FieldType), Jvm.Cond.code ({ cls := "java/lang/Math", name := "max", desc := "(II)I" } : Jvm.MethodName) jdk_29_method_65_code (2 : Nat) (Option.some Jvm.ClassFile.FieldType.int), Jvm.Cond.code ({ cls := "com/example/skope/skope/xml/Intake", name := "passOn", desc := "(JJ)V" } : Jvm.MethodName) prog_26_method_16_code (5 : Nat) (Option.none : Option Jvm.ClassFile.FieldType), Jvm.Cond.code ({ cls := "com/example/skope/skope/xml/Intake", name := "dropNames", desc := "(Z)V" } : Jvm.MethodName) prog_26_method_19_code (2 : Nat) (Option.none : Option Jvm.ClassFile.FieldType), Jvm.Cond.code ({ cls := "com/example/skope/skope/xml/Intake", name := "clear", desc := "()V" } : Jvm.MethodName) prog_26_method_21_code (1 : Nat) (Option.none : Option Jvm.ClassFile.FieldType), Jvm.Cond.code ({ cls := "com/example/skope/skope/xml/Intake", name := "declaringBytes", desc := "()J" } : Jvm.MethodName) prog_26_method_15_code (1 : Nat) (Option.some Jvm.ClassFile.FieldType.long), Jvm.Cond.code ({ cls := "com/example/skope/skope/xml/Intake", name := "nesting", desc := "()I" } : Jvm.MethodName) prog_26_method_10_code (1 : Nat) (Option.some Jvm.ClassFile.FieldType.int), Jvm.Cond.code ({ cls := "com/example/skope/skope/xml/Intake", name := "passedOnDeclarations", desc := "()J" } : Jvm.MethodName) prog_26_method_17_code (1 : Nat) (Option.some Jvm.ClassFile.FieldType.long), Jvm.Cond.code ({ cls := "com/example/skope/skope/xml/Intake", name := "passedOnChars", desc := "()J" } : Jvm.MethodName) prog_26_method_18_code (1 : Nat) (Option.some Jvm.ClassFile.FieldType.long)]
set_option maxRecDepth 65536 in
theorem codes_eq : words1.filter isCode = codes1 := rfl
theorem w_codes : ∀ c ∈ words1.filter isCode, c.before args0 about1 = true := by
  rw [codes_eq]
  intro c hc
  simp only [codes1, List.mem_cons, List.not_mem_nil, or_false] at hc
  rcases hc with rfl | rfl | rfl | rfl | rfl | rfl | rfl | rfl | rfl | rfl | rfl | rfl | rfl
  · exact w_c0
  · exact w_c1
  · exact w_c2
  · exact w_c3
  · exact w_c4
  · exact w_c5
  · exact w_c6
  · exact w_c7
  · exact w_c8
  · exact w_c9
  · exact w_c10
  · exact w_c11
  · exact w_c12
set_option maxRecDepth 65536 in
theorem w_t1 : (words1.take 24).all (fun c => isCode c || c.before args0 about1) = true := by decide +kernel
set_option maxRecDepth 65536 in
theorem w_t2 : ((words1.drop 24).take 24).all (fun c => isCode c || c.before args0 about1) = true := by decide +kernel
set_option maxRecDepth 65536 in
theorem w_t3 : (((words1.drop 24).drop 24).take 24).all (fun c => isCode c || c.before args0 about1) = true := by decide +kernel
set_option maxRecDepth 65536 in
theorem w_t4 : (((words1.drop 24).drop 24).drop 24).all (fun c => isCode c || c.before args0 about1) = true := by decide +kernel
theorem w_tables : (allAtoms (Jvm.Cond.code x code maxLocals ret :: tables_1)).before args0 about1 = true := by
  rw [allAtoms_all]
  show words1.all (fun c => c.before args0 about1) = true
  refine all_split ?_ w_codes
  rw [← List.take_append_drop 24 words1, List.all_append, w_t1, ← List.take_append_drop 24 (words1.drop 24), List.all_append, w_t2, ← List.take_append_drop 24 ((words1.drop 24).drop 24), List.all_append, w_t3, w_t4]
  rfl
set_option maxRecDepth 65536 in
theorem w_case : (Jvm.Cond.and given_1 narrow_1).before args0 about1 = true := by decide +kernel
theorem w_applies : (headSpec (Jvm.Cond.code x code maxLocals ret :: tables_1) room_1).applies x e0.platform about1 = true :=
  (Spec.applies_iff w_frames).mpr ⟨w_running, w_runnable, w_alone, w_named, w_hears, w_ripe, w_room, w_tables⟩
theorem atStart : AtStart classFile x code maxLocals ret World_1 tables_1 room_1 Calls_1 rest_1 Pre_1 launch0 p0 e0 about1 theMethod args0 below0 :=
  ⟨lists_1, trivial, launch0.admits_env _ _ _, launch0.least_env, fairChoices_fair.cas, fairChoices_fair.clock, w_frames, w_args, w_heap, w_applies, trivial, trivial, w_case⟩
end start1
theorem witness_1 : WitnessClaimed_1 := ⟨start1.p0, start1.e0, start1.about1, start1.theMethod, start1.args0, start1.below0, start1.atStart⟩
end Jvm.Pilot.@@N@@
