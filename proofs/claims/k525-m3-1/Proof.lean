import JvmDerived
import JvmDerived.Pilot.@@N@@Statement
import JvmDerived.Pilot.@@N@@Code
set_option linter.unusedVariables false
set_option linter.unusedSimpArgs false
namespace Jvm.RoadKit
open Sem ClassFile Op Lib Jvm.Stand Jvm.Free Jvm.LawKit
section New
variable {p : Program} {l : Launch} {e : Env} {R : Room} {s : State} {m : MethodId} {args : Array Value} {below : List Frame} {meth : Method} {c : Code} {T : State} {locs : List Loc} {cells slots : Nat}
theorem retI (X : Stand p l e R s m args below meth c T locs cells slots) (hx : p.tables.exec = Jvm.exec) {pc : Nat} {Ls : Array Slot} {z : Int32} {rest : List Value} (hret : meth.sig.returnType = some .int) (hd : decode c.code pc = .ok (.ireturn, 1)) {fs : List Frame}
    (hl : ∀ (f : JFrame) (acts : List Action), f.method = m → f.locked = none → f.entered = [] → (doReturn e (T.setTop f) acts (some (.int z))).1 = T.setFrames fs) : Steps p.tables e below (T.setTop (mkF m pc Ls (.int z :: rest))) (T.setFrames fs) := by
  have hm' : T.vm.method? m = some meth := X.method'
  have hn : narrow .int (.int z) = .int z := rfl
  show Steps p.tables e below (T.setTop { method := m, pc := pc, locals := Ls, stack := _ :: rest, locked := none }) _
  jvm_step X.here [X.here.top, hx, hd, hm', hret, hn]
  first | (intro acts; rw [hl _ acts rfl rfl rfl]) | rw [hl _ _ rfl rfl rfl]
  exact Steps.refl _
/-- from here the run ends as G says -/
def WP (tb : Tables) (e : Env) (below : List Frame) (G : State → Outcome → Prop) (T : State) (f : JFrame) : Prop := ∃ s₂ o, Steps tb e below (T.setTop f) s₂ ∧ G s₂ o
theorem WP.go {tb : Tables} {G : State → Outcome → Prop} {f : JFrame} (h : WP tb e below G T f) : ∃ s₂ o, Steps tb e below (T.setTop f) s₂ ∧ G s₂ o := h
theorem WP.fin {tb : Tables} {G : State → Outcome → Prop} {f : JFrame} (h : ∃ s₂ o, Steps tb e below (T.setTop f) s₂ ∧ G s₂ o) : WP tb e below G T f := h
theorem WP.cast {tb : Tables} {G : State → Outcome → Prop} {f f' : JFrame} (q : f = f') (h : WP tb e below G T f') : WP tb e below G T f := q ▸ h
theorem WP.st {tb : Tables} {G : State → Outcome → Prop} {T' : State} {f f' : JFrame} (k : ∀ t, Steps tb e below (T'.setTop f') t → Steps tb e below (T.setTop f) t) (h : WP tb e below G T' f') : WP tb e below G T f := by
  obtain ⟨s₂, o, h1, h2⟩ := h
  exact ⟨s₂, o, k _ h1, h2⟩
theorem WP.tr {tb : Tables} {G : State → Outcome → Prop} {T' : State} {f f' : JFrame} (k : Steps tb e below (T.setTop f) (T'.setTop f')) (h : WP tb e below G T' f') : WP tb e below G T f := by
  obtain ⟨s₂, o, h1, h2⟩ := h
  exact ⟨s₂, o, k.trans h1, h2⟩
theorem WP.name {tb : Tables} {G : State → Outcome → Prop} {f : JFrame} (h : ∀ G', G' = G → WP tb e below G' T f) : WP tb e below G T f := h G rfl
theorem ownWider (X : Stand p l e R s m args below meth c T locs cells slots) {c' s' : Nat} (h1 : cells ≤ c') (h2 : slots ≤ s') : Stand p l e R s m args below meth c T locs c' s' := { X with same := X.same.mono h1 h2 }
end New
theorem Arv.rd {Z : State} {h : Heap} {a : Addr} {k : ClassId} {ty : FieldType} {z j : Int32} {vs : List Value} {dv : Value} (F : Arv Z h a k ty z vs dv) (hj : ¬ j < 0 ∧ j < z) : ∃ c : Cell, Arr Z h a c ty ∧ ¬ (j < 0 ∨ c.slots.size ≤ j.toNatClampNeg) ∧ c.slots[j.toNatClampNeg]? = some (vs.getD j.toNatClampNeg dv) ∧ c.slots.size.toInt32 = z := by
  obtain ⟨c, A, -, S, q, H, -⟩ := F
  have hin := inb_of S hj
  exact ⟨c, A, hin, H.at hin rfl, len_of S q⟩
theorem Arv.len {Z : State} {h : Heap} {a : Addr} {k : ClassId} {ty : FieldType} {z : Int32} {vs : List Value} {dv : Value} (F : Arv Z h a k ty z vs dv) : ∃ c : Cell, Arr Z h a c ty ∧ c.slots.size.toInt32 = z := by
  obtain ⟨c, A, -, S, q, -, -⟩ := F
  exact ⟨c, A, len_of S q⟩
theorem ownFits {t : FieldType} {x : Int32} {y : Value} (h : narrow t (.int x) = y) (hf : fits t (narrow t (.int x)) = true) : fits t y = true := h ▸ hf
theorem nar01 {b : Int32} (h : b = 0 ∨ b = 1) : nar .boolean b = b := by rcases h with rfl | rfl <;> rfl
end Jvm.RoadKit
namespace Jvm.Pilot.@@N@@
open Jvm Jvm.ClassFile Sem Op Lib Jvm.Free Jvm.Stand Jvm.LawKit Jvm.RoadKit Bundle Jvm.Pilot.@@N@@.Jvm.D
theorem ef_2 (m : MethodId) (a1 : Addr) : entryFrame m #[(.ref a1)] 1 = mkF m 0 #[.val (.ref a1)] [] := by first | (simp [entryFrame, mkF, argsToLocals, Value.category]; done) | rfl
theorem pn_0 : plainName "java/lang/Record" = true := by first | (simp [plainName, overriddenIn]; done) | decide +kernel
theorem d2_0 : decode jdk_30_method_1_code 0 = .ok (.aload_n 0, 1) := by decide +kernel
theorem d2_1 : decode jdk_30_method_1_code 1 = .ok (.invokespecial 1, 3) := by decide +kernel
theorem d2_4 : decode jdk_30_method_1_code 4 = .ok (.return_, 1) := by decide +kernel
def Q2 (Z : State) (a1 : Addr) (h0 : Heap) (n0 : Nat) (v : Option Value) (h : Heap) (L : List Loc) : Prop := v = none ∧ Fr n0 L ∧ Keep h0 h []
set_option maxRecDepth 65536 in
set_option maxHeartbeats 40000000 in
theorem rm2 (l : Launch) (Z : State) (a0 : Array Value) (hw : ∀ d ∈ tables_1, d.before a0 Z = true) (ws : List Jvm.Cond) (a1 : Addr) (h0 : Heap) (n0 : Nat) (Z0 : n0 ≤ h0.size)  :
    MetFree l (⟨"java/lang/Record", "<init>", "()V"⟩ : MethodName) (head1 (Jvm.Cond.code (⟨"java/lang/Record", "<init>", "()V"⟩ : MethodName) jdk_30_method_1_code 1 none :: ws) ({ frames := 1, cells := 0, slots := 0, locals := 12 } : Room)) (fun a U => a = #[(.ref a1)] ∧ Z.Warmed39 U.vm ∧ U.heap = h0) (fun _ _ _ _ _ => True) (fun _ U o U' => ∃ v L, o = .returned v ∧ Q2 Z a1 h0 n0 v U'.heap L ∧ FrameEnd U o U' L ({ frames := 1, cells := 0, slots := 0, locals := 12 } : Room).cells ({ frames := 1, cells := 0, slots := 0, locals := 12 } : Room).slots) := by
  refine MetFree.of_bodySF (plainFor_of_name pn_0) hisR ?_
  intro p e s m args below meth c s₁ Bd hml0 hP hK
  obtain ⟨rfl, hZ, hh⟩ := hP
  have hx := Bd.exec
  have hby := Bd.bytes
  have hml : c.maxLocals = 1 := hml0
  have hown : s.vm.findClass "java/lang/Record" = some m.cls := findClass_of_methodNamed Bd.named
  have hnm := (name_of_methodNamed Bd.named Bd.method).1
  have X0 : Stand p l e ({ frames := 1, cells := 0, slots := 0, locals := 12 } : Room) s m #[(.ref a1)] below meth c s₁ [] 0 0 := Stand.of_body Bd
  have e0 : s₁.heap = h0 := by rw [← hh, Bd.state]; rfl
  have NF := Fr.nil n0
  have KP : Keep h0 h0 [] := Keep.refl h0 _
  refine WP.go ?_
  refine WP.cast (ef_2 m a1) ?_
  refine WP.name ?_
  intro G hG
  have bk1 : ∀ t, Steps p.tables e below (s₁.setTop (mkF m 1 #[.val (.ref a1)] [(.ref a1)])) t → Steps p.tables e below (s₁.setTop (mkF m 0 #[.val (.ref a1)] [])) t := fun t k => by
    refine XS.aloadN X0.here hx rfl (hb hby d2_0) rfl rfl ?_
    exact k
  refine WP.st bk1 ?_
  clear bk1
  obtain ⟨T2, X2, e2, st2⟩ := initO X0 hx hZ hown (hw _ (List.mem_of_getElem? (i := 11) rfl)) (hw _ (List.mem_of_getElem? (i := 12) rfl)) (hw _ (List.mem_of_getElem? (i := 13) rfl)) e0 (g := (mkF m 1 #[.val (.ref a1)] [(.ref a1)])) rfl (by rw [hml]; rfl) rfl (hb hby d2_1) (by decide) (W := 0) (by show 2 * 0 + _ ≤ _; exact Nat.le_of_eq rfl) (by decide)
  refine WP.st st2 ?_
  clear st2
  show WP p.tables e below _ T2 (mkF m 4 #[.val (.ref a1)] [])
  subst hG
  obtain ⟨fs, hr, hrun, hended, hW, hsame⟩ := X2.leave (v := none) (fun _ => rfl)
  refine WP.fin ⟨_, _, ?_, hrun, hended, _, _, rfl, ?_, ⟨_, rfl⟩, hW, hsame.mono (by decide) (by decide)⟩
  · exact X2.returnOut hx Bd.returns (hb hby d2_4) hr
  · show Q2 Z a1 h0 n0 _ T2.heap _
    rw [e2]
    exact ⟨rfl, NF, KP⟩
theorem ef_1 (m : MethodId) (a1 : Addr) (q1 : Int64) (q2 : Int64) : entryFrame m #[(.ref a1), (.long q1), (.long q2)] 5 = mkF m 0 #[.val (.ref a1), .val (.long q1), .second, .val (.long q2), .second] [] := by first | (simp [entryFrame, mkF, argsToLocals, Value.category]; done) | rfl
theorem pn_1 : plainName "com/example/deodar/deodar/workingcopy/FileState" = true := by first | (simp [plainName, overriddenIn]; done) | decide +kernel
theorem d1_0 : decode prog_99_method_1_code 0 = .ok (.aload_n 0, 1) := by decide +kernel
theorem d1_1 : decode prog_99_method_1_code 1 = .ok (.invokespecial 3, 3) := by decide +kernel
theorem pd_0 : parseMethodDescriptor "()V" = some ⟨[], none⟩ := by decide +kernel
theorem d1_4 : decode prog_99_method_1_code 4 = .ok (.aload_n 0, 1) := by decide +kernel
theorem d1_5 : decode prog_99_method_1_code 5 = .ok (.lload_n 1, 1) := by decide +kernel
theorem d1_6 : decode prog_99_method_1_code 6 = .ok (.putfield 9, 3) := by decide +kernel
theorem d1_9 : decode prog_99_method_1_code 9 = .ok (.aload_n 0, 1) := by decide +kernel
theorem d1_10 : decode prog_99_method_1_code 10 = .ok (.lload_n 3, 1) := by decide +kernel
theorem d1_11 : decode prog_99_method_1_code 11 = .ok (.putfield 15, 3) := by decide +kernel
theorem d1_14 : decode prog_99_method_1_code 14 = .ok (.return_, 1) := by decide +kernel
def Q1 (Z : State) (a1 : Addr) (q1 : Int64) (q2 : Int64) (u1 : Int64) (u2 : Int64) (h0 : Heap) (n0 : Nat) (v : Option Value) (h : Heap) (L : List Loc) : Prop := v = none ∧ Fr n0 L ∧ Keep h0 h [a1] ∧ Fld Z h a1 "com/example/deodar/deodar/workingcopy/FileState" "size" "J" (.long q1) ∧ Fld Z h a1 "com/example/deodar/deodar/workingcopy/FileState" "modified" "J" (.long q2)
set_option maxRecDepth 65536 in
set_option maxHeartbeats 40000000 in
theorem rm1 (l : Launch) (Z : State) (a0 : Array Value) (hw : ∀ d ∈ tables_1, d.before a0 Z = true) (ws : List Jvm.Cond) (a1 : Addr) (q1 : Int64) (q2 : Int64) (u1 : Int64) (u2 : Int64) (h0 : Heap) (n0 : Nat) (Z0 : n0 ≤ h0.size) (E_a1 : Exa Z h0 a1 "com/example/deodar/deodar/workingcopy/FileState") (g_a1 : n0 ≤ a1) (F_a1_size : Fld Z h0 a1 "com/example/deodar/deodar/workingcopy/FileState" "size" "J" (.long u1)) (F_a1_modified : Fld Z h0 a1 "com/example/deodar/deodar/workingcopy/FileState" "modified" "J" (.long u2)) :
    MetFree l (⟨"com/example/deodar/deodar/workingcopy/FileState", "<init>", "(JJ)V"⟩ : MethodName) (head1 (Jvm.Cond.code (⟨"com/example/deodar/deodar/workingcopy/FileState", "<init>", "(JJ)V"⟩ : MethodName) prog_99_method_1_code 5 none :: ws) ({ frames := 2, cells := 0, slots := 0, locals := 24 } : Room)) (fun a U => a = #[(.ref a1), (.long q1), (.long q2)] ∧ Z.Warmed39 U.vm ∧ U.heap = h0) (fun _ _ _ _ _ => True) (fun _ U o U' => ∃ v L, o = .returned v ∧ Q1 Z a1 q1 q2 u1 u2 h0 n0 v U'.heap L ∧ FrameEnd U o U' L ({ frames := 2, cells := 0, slots := 0, locals := 24 } : Room).cells ({ frames := 2, cells := 0, slots := 0, locals := 24 } : Room).slots) := by
  refine MetFree.of_bodySF (plainFor_of_name pn_1) hisR ?_
  intro p e s m args below meth c s₁ Bd hml0 hP hK
  obtain ⟨rfl, hZ, hh⟩ := hP
  have hx := Bd.exec
  have hby := Bd.bytes
  have hml : c.maxLocals = 5 := hml0
  have hown : s.vm.findClass "com/example/deodar/deodar/workingcopy/FileState" = some m.cls := findClass_of_methodNamed Bd.named
  have hnm := (name_of_methodNamed Bd.named Bd.method).1
  have X0 : Stand p l e ({ frames := 2, cells := 0, slots := 0, locals := 24 } : Room) s m #[(.ref a1), (.long q1), (.long q2)] below meth c s₁ [] 0 0 := Stand.of_body Bd
  have e0 : s₁.heap = h0 := by rw [← hh, Bd.state]; rfl
  have NF := Fr.nil n0
  have KP : Keep h0 h0 [a1] := Keep.refl h0 _
  refine WP.go ?_
  refine WP.cast (ef_1 m a1 q1 q2) ?_
  refine WP.name ?_
  intro G hG
  have bk3 : ∀ t, Steps p.tables e below (s₁.setTop (mkF m 1 #[.val (.ref a1), .val (.long q1), .second, .val (.long q2), .second] [(.ref a1)])) t → Steps p.tables e below (s₁.setTop (mkF m 0 #[.val (.ref a1), .val (.long q1), .second, .val (.long q2), .second] [])) t := fun t k => by
    refine XS.aloadN X0.here hx rfl (hb hby d1_0) rfl rfl ?_
    exact k
  refine WP.st bk3 ?_
  clear bk3
  obtain ⟨_, _, ⟨T4, L4, k4, n4⟩, -, X4, ⟨Lc4, hQ4, l4, y4, z4⟩, st4⟩ := X0.specialBack hx (y := (⟨"java/lang/Record", "<init>", "()V"⟩ : MethodName)) rfl hown (mvT hZ (hw _ (List.mem_of_getElem? (i := 6) rfl))) (mvT hZ (hw _ (List.mem_of_getElem? (i := 7) rfl))) (mvT hZ (hw _ (List.mem_of_getElem? (i := 10) rfl))) (by decide) (backOf (W := 0) (rm2 l Z a0 hw [] a1 h0 n0 Z0 ) hZ (hw _ (List.mem_of_getElem? (i := 10) rfl)) (hw _ (List.mem_of_getElem? (i := 9) rfl)) (by decide) (by decide)) (g := (mkF m 1 #[.val (.ref a1), .val (.long q1), .second, .val (.long q2), .second] [(.ref a1)])) rfl (by rw [hml]; rfl) (Steps.refl _) (a := a1) (argsL := []) (rest := []) (lenOf pd_0 rfl) rfl (by show 2 * 0 + _ ≤ _; exact Nat.le_of_eq rfl) (hb hby d1_1) (fun _ _ => ⟨rfl, e0, (by decide : 0 + 0 ≤ _), (by decide : 0 + 0 ≤ _)⟩)
  dsimp only [Pt.U, Pt.locs, Pt.cells, Pt.slots] at X4 l4 y4 z4 st4 hQ4
  subst l4 y4 z4
  obtain ⟨rfl, Nq4, Kq4⟩ := hQ4
  replace NF := Fr.app NF Nq4
  clear Nq4
  refine WP.tr st4 ?_
  clear st4
  obtain ⟨h4, e4⟩ : ∃ h, T4.heap = h := ⟨_, rfl⟩
  rw [e4] at Kq4
  replace E_a1 := E_a1.keep Kq4
  replace F_a1_size := F_a1_size.keep Kq4 (by exact nin0)
  replace F_a1_modified := F_a1_modified.keep Kq4 (by exact nin0)
  replace Z0 := Nat.le_trans Z0 Kq4.1
  replace KP := KP.trans Kq4 all0
  clear Kq4
  show WP p.tables e below _ T4 (mkF m 4 #[.val (.ref a1), .val (.long q1), .second, .val (.long q2), .second] [])
  have bk5 : ∀ t, Steps p.tables e below (T4.setTop (mkF m 6 #[.val (.ref a1), .val (.long q1), .second, .val (.long q2), .second] [(.long q1), (.ref a1)])) t → Steps p.tables e below (T4.setTop (mkF m 4 #[.val (.ref a1), .val (.long q1), .second, .val (.long q2), .second] [])) t := fun t k => by
    refine XS.aloadN X4.here hx rfl (hb hby d1_4) rfl rfl ?_
    show Steps p.tables e below (T4.setTop (mkF m 5 #[.val (.ref a1), .val (.long q1), .second, .val (.long q2), .second] [(.ref a1)])) t
    refine XS.lloadN X4.here hx rfl (hb hby d1_5) rfl ?_
    exact k
  refine WP.st bk5 ?_
  clear bk5
  obtain ⟨T6, h6, X6, e6, W6, st6⟩ := putF X4 hx hZ hown (host := "") (Or.inl (hw _ (List.mem_of_getElem? (i := 14) rfl))) Via.refl e4 F_a1_size E_a1 (Or.inr ⟨(hw _ (List.mem_of_getElem? (i := 15) rfl)), rfl, hnm⟩) (hw _ (List.mem_of_getElem? (i := 1) rfl)) (ty := .long) (by decide) rfl rfl (g := (mkF m 6 #[.val (.ref a1), .val (.long q1), .second, .val (.long q2), .second] [(.long q1), (.ref a1)])) rfl rfl (hb hby d1_6)
  refine WP.st st6 ?_
  clear st6
  replace E_a1 := E_a1.wr W6
  replace F_a1_size := F_a1_size.same W6
  replace F_a1_modified := F_a1_modified.other W6 (Or.inr (slot_ne (Or.inr (hw _ (List.mem_of_getElem? (i := 17) rfl))) (Or.inr (hw _ (List.mem_of_getElem? (i := 15) rfl))) (by decide) (t := .long) (t' := .long) (by decide) (by decide)))
  replace Z0 := Nat.le_trans Z0 (Keep.of_wr W6).1
  replace KP := KP.wr W6 (Or.inl (List.mem_of_getElem? (i := 0) rfl))
  replace NF := Fr.snoc X6 NF g_a1
  clear W6
  show WP p.tables e below _ T6 (mkF m 9 #[.val (.ref a1), .val (.long q1), .second, .val (.long q2), .second] [])
  have bk7 : ∀ t, Steps p.tables e below (T6.setTop (mkF m 11 #[.val (.ref a1), .val (.long q1), .second, .val (.long q2), .second] [(.long q2), (.ref a1)])) t → Steps p.tables e below (T6.setTop (mkF m 9 #[.val (.ref a1), .val (.long q1), .second, .val (.long q2), .second] [])) t := fun t k => by
    refine XS.aloadN X6.here hx rfl (hb hby d1_9) rfl rfl ?_
    show Steps p.tables e below (T6.setTop (mkF m 10 #[.val (.ref a1), .val (.long q1), .second, .val (.long q2), .second] [(.ref a1)])) t
    refine XS.lloadN X6.here hx rfl (hb hby d1_10) rfl ?_
    exact k
  refine WP.st bk7 ?_
  clear bk7
  obtain ⟨T8, h8, X8, e8, W8, st8⟩ := putF X6 hx hZ hown (host := "") (Or.inl (hw _ (List.mem_of_getElem? (i := 16) rfl))) Via.refl e6 F_a1_modified E_a1 (Or.inr ⟨(hw _ (List.mem_of_getElem? (i := 17) rfl)), rfl, hnm⟩) (hw _ (List.mem_of_getElem? (i := 1) rfl)) (ty := .long) (by decide) rfl rfl (g := (mkF m 11 #[.val (.ref a1), .val (.long q1), .second, .val (.long q2), .second] [(.long q2), (.ref a1)])) rfl rfl (hb hby d1_11)
  refine WP.st st8 ?_
  clear st8
  replace E_a1 := E_a1.wr W8
  replace F_a1_size := F_a1_size.other W8 (Or.inr (slot_ne (Or.inr (hw _ (List.mem_of_getElem? (i := 15) rfl))) (Or.inr (hw _ (List.mem_of_getElem? (i := 17) rfl))) (by decide) (t := .long) (t' := .long) (by decide) (by decide)))
  replace F_a1_modified := F_a1_modified.same W8
  replace Z0 := Nat.le_trans Z0 (Keep.of_wr W8).1
  replace KP := KP.wr W8 (Or.inl (List.mem_of_getElem? (i := 0) rfl))
  replace NF := Fr.snoc X8 NF g_a1
  clear W8
  show WP p.tables e below _ T8 (mkF m 14 #[.val (.ref a1), .val (.long q1), .second, .val (.long q2), .second] [])
  subst hG
  obtain ⟨fs, hr, hrun, hended, hW, hsame⟩ := X8.leave (v := none) (fun _ => rfl)
  refine WP.fin ⟨_, _, ?_, hrun, hended, _, _, rfl, ?_, ⟨_, rfl⟩, hW, hsame.mono (by decide) (by decide)⟩
  · exact X8.returnOut hx Bd.returns (hb hby d1_14) hr
  · show Q1 Z a1 q1 q2 u1 u2 h0 n0 _ T8.heap _
    rw [e8]
    exact ⟨rfl, NF, KP, F_a1_size, F_a1_modified⟩
theorem ef_4y (m : MethodId) (a1 : Addr) (q1 : Int64) : entryFrame m #[(.ref a1), (.long q1)] 3 = mkF m 0 #[.val (.ref a1), .val (.long q1), .second] [] := by first | (simp [entryFrame, mkF, argsToLocals, Value.category]; done) | rfl
theorem d4_0 : decode prog_99_method_5_code 0 = .ok (.aload_n 0, 1) := by decide +kernel
theorem d4_1 : decode prog_99_method_5_code 1 = .ok (.getfield 15, 3) := by decide +kernel
theorem d4_4 : decode prog_99_method_5_code 4 = .ok (.lload_n 1, 1) := by decide +kernel
theorem d4_5 : decode prog_99_method_5_code 5 = .ok (.lcmp, 1) := by decide +kernel
theorem d4_6 : decode prog_99_method_5_code 6 = .ok (.ifCond .ge 7, 3) := by decide +kernel
theorem d4_9 : decode prog_99_method_5_code 9 = .ok (.aload_n 0, 1) := by decide +kernel
theorem d4_10 : decode prog_99_method_5_code 10 = .ok (.goto 17, 3) := by decide +kernel
theorem d4_27 : decode prog_99_method_5_code 27 = .ok (.areturn, 1) := by decide +kernel
def Q4y (Z : State) (a1 : Addr) (q1 : Int64) (u1 : Int64) (u2 : Int64) (h0 : Heap) (n0 : Nat) (v : Option Value) (h : Heap) (L : List Loc) : Prop := v = some (.ref a1) ∧ Fr n0 L ∧ h = h0
set_option maxRecDepth 65536 in
set_option maxHeartbeats 40000000 in
theorem rm4y (l : Launch) (Z : State) (a0 : Array Value) (hw : ∀ d ∈ tables_1, d.before a0 Z = true) (ws : List Jvm.Cond) (a1 : Addr) (q1 : Int64) (u1 : Int64) (u2 : Int64) (h0 : Heap) (n0 : Nat) (Z0 : n0 ≤ h0.size) (F_a1_size : Fld Z h0 a1 "com/example/deodar/deodar/workingcopy/FileState" "size" "J" (.long u1)) (F_a1_modified : Fld Z h0 a1 "com/example/deodar/deodar/workingcopy/FileState" "modified" "J" (.long u2)) (hlt : (lcmpW u2 q1) < (0 : Int32)) :
    MetFree l (⟨"com/example/deodar/deodar/workingcopy/FileState", "toRecord", "(J)Lcom/example/deodar/deodar/workingcopy/FileState;"⟩ : MethodName) (head1 (Jvm.Cond.code (⟨"com/example/deodar/deodar/workingcopy/FileState", "toRecord", "(J)Lcom/example/deodar/deodar/workingcopy/FileState;"⟩ : MethodName) prog_99_method_5_code 3 (some (.object "com/example/deodar/deodar/workingcopy/FileState")) :: ws) ({ frames := 0, cells := 0, slots := 0, locals := 0 } : Room)) (fun a U => a = #[(.ref a1), (.long q1)] ∧ Z.Warmed39 U.vm ∧ U.heap = h0) (fun _ _ _ _ _ => True) (fun _ U o U' => ∃ v L, o = .returned v ∧ Q4y Z a1 q1 u1 u2 h0 n0 v U'.heap L ∧ FrameEnd U o U' L ({ frames := 0, cells := 0, slots := 0, locals := 0 } : Room).cells ({ frames := 0, cells := 0, slots := 0, locals := 0 } : Room).slots) := by
  refine MetFree.of_bodySF (plainFor_of_name pn_1) hisR ?_
  intro p e s m args below meth c s₁ Bd hml0 hP hK
  obtain ⟨rfl, hZ, hh⟩ := hP
  have hx := Bd.exec
  have hby := Bd.bytes
  have hml : c.maxLocals = 3 := hml0
  have hown : s.vm.findClass "com/example/deodar/deodar/workingcopy/FileState" = some m.cls := findClass_of_methodNamed Bd.named
  have hnm := (name_of_methodNamed Bd.named Bd.method).1
  have X0 : Stand p l e ({ frames := 0, cells := 0, slots := 0, locals := 0 } : Room) s m #[(.ref a1), (.long q1)] below meth c s₁ [] 0 0 := Stand.of_body Bd
  have e0 : s₁.heap = h0 := by rw [← hh, Bd.state]; rfl
  have NF := Fr.nil n0
  refine WP.go ?_
  refine WP.cast (ef_4y m a1 q1) ?_
  refine WP.name ?_
  intro G hG
  have bk9 : ∀ t, Steps p.tables e below (s₁.setTop (mkF m 1 #[.val (.ref a1), .val (.long q1), .second] [(.ref a1)])) t → Steps p.tables e below (s₁.setTop (mkF m 0 #[.val (.ref a1), .val (.long q1), .second] [])) t := fun t k => by
    refine XS.aloadN X0.here hx rfl (hb hby d4_0) rfl rfl ?_
    exact k
  refine WP.st bk9 ?_
  clear bk9
  obtain ⟨T10, X10, e10, st10⟩ := getF X0 hx hZ hown (host := "") (Or.inl (hw _ (List.mem_of_getElem? (i := 16) rfl))) Via.refl e0 F_a1_modified (g := (mkF m 1 #[.val (.ref a1), .val (.long q1), .second] [(.ref a1)])) rfl rfl (hb hby d4_1)
  refine WP.st st10 ?_
  clear st10
  show WP p.tables e below _ T10 (mkF m 4 #[.val (.ref a1), .val (.long q1), .second] [(.long u2)])
  have bk11 : ∀ t, Steps p.tables e below (T10.setTop (mkF m 27 #[.val (.ref a1), .val (.long q1), .second] [(.ref a1)])) t → Steps p.tables e below (T10.setTop (mkF m 4 #[.val (.ref a1), .val (.long q1), .second] [(.long u2)])) t := fun t k => by
    refine XS.lloadN X10.here hx rfl (hb hby d4_4) rfl ?_
    show Steps p.tables e below (T10.setTop (mkF m 5 #[.val (.ref a1), .val (.long q1), .second] [(.long q1), (.long u2)])) t
    refine XS.lcmp X10.here hx rfl (hb hby d4_5) rfl ?_
    show Steps p.tables e below (T10.setTop (mkF m 6 #[.val (.ref a1), .val (.long q1), .second] [(.int (lcmpW u2 q1))])) t
    refine XS.ifNo X10.here hx rfl (hb hby d4_6) rfl ((if0 _ _).trans (tlt hlt).2.1) ?_
    show Steps p.tables e below (T10.setTop (mkF m 9 #[.val (.ref a1), .val (.long q1), .second] [])) t
    refine XS.aloadN X10.here hx rfl (hb hby d4_9) rfl rfl ?_
    show Steps p.tables e below (T10.setTop (mkF m 10 #[.val (.ref a1), .val (.long q1), .second] [(.ref a1)])) t
    refine XS.goto X10.here hx rfl (pc0 := 10) (pc' := 27) rfl (hb hby d4_10) (by decide) (by decide) ?_
    exact k
  refine WP.st bk11 ?_
  clear bk11
  subst hG
  obtain ⟨fs, hr, hrun, hended, hW, hsame⟩ := X10.leave (v := some (.ref a1)) (fun h => by rw [Bd.returns] at h; cases h)
  refine WP.fin ⟨_, _, ?_, hrun, hended, _, _, rfl, ?_, ⟨_, rfl⟩, hW, hsame.mono (by decide) (by decide)⟩
  · exact retOut X10 hx Bd.returns rfl (Or.inr (Or.inr (Or.inr (Or.inr ⟨rfl, rfl, rfl⟩)))) (hb hby d4_27) hr
  · show Q4y Z a1 q1 u1 u2 h0 n0 _ T10.heap _
    rw [e10]
    exact ⟨rfl, NF, rfl⟩
theorem ef_4n (m : MethodId) (a1 : Addr) (q1 : Int64) : entryFrame m #[(.ref a1), (.long q1)] 3 = mkF m 0 #[.val (.ref a1), .val (.long q1), .second] [] := by first | (simp [entryFrame, mkF, argsToLocals, Value.category]; done) | rfl
theorem d4_13 : decode prog_99_method_5_code 13 = .ok (.new 10, 3) := by decide +kernel
theorem d4_16 : decode prog_99_method_5_code 16 = .ok (.dup, 1) := by decide +kernel
theorem d4_17 : decode prog_99_method_5_code 17 = .ok (.aload_n 0, 1) := by decide +kernel
theorem d4_18 : decode prog_99_method_5_code 18 = .ok (.getfield 9, 3) := by decide +kernel
theorem d4_21 : decode prog_99_method_5_code 21 = .ok (.ldc2_w 80, 3) := by decide +kernel
theorem d4_24 : decode prog_99_method_5_code 24 = .ok (.invokespecial 51, 3) := by decide +kernel
theorem pd_1 : parseMethodDescriptor "(JJ)V" = some ⟨[.long, .long], none⟩ := by decide +kernel
def Q4n (Z : State) (a1 : Addr) (q1 : Int64) (u1 : Int64) (u2 : Int64) (h0 : Heap) (n0 : Nat) (v : Option Value) (h : Heap) (L : List Loc) : Prop := ∃ r : Addr, v = some (.ref r) ∧ Fr n0 L ∧ Keep h0 h [] ∧ h0.size ≤ r ∧ Exa Z h r "com/example/deodar/deodar/workingcopy/FileState" ∧ Fld Z h r "com/example/deodar/deodar/workingcopy/FileState" "size" "J" (.long u1) ∧ Fld Z h r "com/example/deodar/deodar/workingcopy/FileState" "modified" "J" (.long (-9223372036854775808 : Int64))
set_option maxRecDepth 65536 in
set_option maxHeartbeats 40000000 in
theorem rm4n (l : Launch) (Z : State) (a0 : Array Value) (hw : ∀ d ∈ tables_1, d.before a0 Z = true) (ws : List Jvm.Cond) (a1 : Addr) (q1 : Int64) (u1 : Int64) (u2 : Int64) (h0 : Heap) (n0 : Nat) (Z0 : n0 ≤ h0.size) (F_a1_size : Fld Z h0 a1 "com/example/deodar/deodar/workingcopy/FileState" "size" "J" (.long u1)) (F_a1_modified : Fld Z h0 a1 "com/example/deodar/deodar/workingcopy/FileState" "modified" "J" (.long u2)) (hlt : ¬ ((lcmpW u2 q1) < (0 : Int32))) :
    MetFree l (⟨"com/example/deodar/deodar/workingcopy/FileState", "toRecord", "(J)Lcom/example/deodar/deodar/workingcopy/FileState;"⟩ : MethodName) (head1 (Jvm.Cond.code (⟨"com/example/deodar/deodar/workingcopy/FileState", "toRecord", "(J)Lcom/example/deodar/deodar/workingcopy/FileState;"⟩ : MethodName) prog_99_method_5_code 3 (some (.object "com/example/deodar/deodar/workingcopy/FileState")) :: ws) ({ frames := 3, cells := 1, slots := 2, locals := 41 } : Room)) (fun a U => a = #[(.ref a1), (.long q1)] ∧ Z.Warmed39 U.vm ∧ U.heap = h0) (fun _ _ _ _ _ => True) (fun _ U o U' => ∃ v L, o = .returned v ∧ Q4n Z a1 q1 u1 u2 h0 n0 v U'.heap L ∧ FrameEnd U o U' L ({ frames := 3, cells := 1, slots := 2, locals := 41 } : Room).cells ({ frames := 3, cells := 1, slots := 2, locals := 41 } : Room).slots) := by
  refine MetFree.of_bodySF (plainFor_of_name pn_1) hisR ?_
  intro p e s m args below meth c s₁ Bd hml0 hP hK
  obtain ⟨rfl, hZ, hh⟩ := hP
  have hx := Bd.exec
  have hby := Bd.bytes
  have hml : c.maxLocals = 3 := hml0
  have hown : s.vm.findClass "com/example/deodar/deodar/workingcopy/FileState" = some m.cls := findClass_of_methodNamed Bd.named
  have hnm := (name_of_methodNamed Bd.named Bd.method).1
  have X0 : Stand p l e ({ frames := 3, cells := 1, slots := 2, locals := 41 } : Room) s m #[(.ref a1), (.long q1)] below meth c s₁ [] 0 0 := Stand.of_body Bd
  have e0 : s₁.heap = h0 := by rw [← hh, Bd.state]; rfl
  have NF := Fr.nil n0
  have KP : Keep h0 h0 [] := Keep.refl h0 _
  refine WP.go ?_
  refine WP.cast (ef_4n m a1 q1) ?_
  refine WP.name ?_
  intro G hG
  have bk12 : ∀ t, Steps p.tables e below (s₁.setTop (mkF m 1 #[.val (.ref a1), .val (.long q1), .second] [(.ref a1)])) t → Steps p.tables e below (s₁.setTop (mkF m 0 #[.val (.ref a1), .val (.long q1), .second] [])) t := fun t k => by
    refine XS.aloadN X0.here hx rfl (hb hby d4_0) rfl rfl ?_
    exact k
  refine WP.st bk12 ?_
  clear bk12
  obtain ⟨T13, X13, e13, st13⟩ := getF X0 hx hZ hown (host := "") (Or.inl (hw _ (List.mem_of_getElem? (i := 16) rfl))) Via.refl e0 F_a1_modified (g := (mkF m 1 #[.val (.ref a1), .val (.long q1), .second] [(.ref a1)])) rfl rfl (hb hby d4_1)
  refine WP.st st13 ?_
  clear st13
  show WP p.tables e below _ T13 (mkF m 4 #[.val (.ref a1), .val (.long q1), .second] [(.long u2)])
  have bk14 : ∀ t, Steps p.tables e below (T13.setTop (mkF m 13 #[.val (.ref a1), .val (.long q1), .second] [])) t → Steps p.tables e below (T13.setTop (mkF m 4 #[.val (.ref a1), .val (.long q1), .second] [(.long u2)])) t := fun t k => by
    refine XS.lloadN X13.here hx rfl (hb hby d4_4) rfl ?_
    show Steps p.tables e below (T13.setTop (mkF m 5 #[.val (.ref a1), .val (.long q1), .second] [(.long q1), (.long u2)])) t
    refine XS.lcmp X13.here hx rfl (hb hby d4_5) rfl ?_
    show Steps p.tables e below (T13.setTop (mkF m 6 #[.val (.ref a1), .val (.long q1), .second] [(.int (lcmpW u2 q1))])) t
    refine XS.ifYes X13.here hx rfl (pc0 := 6) (pc' := 13) rfl (hb hby d4_6) rfl ((if0 _ _).trans (flt hlt).2.1) (by decide) (by decide) ?_
    exact k
  refine WP.st bk14 ?_
  clear bk14
  obtain ⟨T15, h15, X15, e15, E15, A15, D15, -, st15⟩ := newO X13 hx hZ hown (hw _ (List.mem_of_getElem? (i := 33) rfl)) (hw _ (List.mem_of_getElem? (i := 1) rfl)) (hw _ (List.mem_of_getElem? (i := 2) rfl)) e13 (g := (mkF m 13 #[.val (.ref a1), .val (.long q1), .second] [])) rfl (hb hby d4_13) (by decide) (by decide)
  obtain ⟨b15, g15⟩ : ∃ z, z = h0.size := ⟨_, rfl⟩
  rw [← g15] at A15 D15 st15
  refine WP.st st15 ?_
  clear st15
  have ne_a1_b15 : a1 ≠ b15 := Nat.ne_of_lt (Nat.lt_of_lt_of_le F_a1_size.lt (Nat.le_of_eq g15.symm))
  have g_b15 : n0 ≤ b15 := Nat.le_trans Z0 (Nat.le_of_eq g15.symm)
  have sz_b15 : h0.size ≤ b15 := Nat.le_trans KP.1 (Nat.le_of_eq g15.symm)
  replace F_a1_size := F_a1_size.ext E15
  replace F_a1_modified := F_a1_modified.ext E15
  replace Z0 := Nat.le_trans Z0 E15.1
  replace KP := KP.ext E15
  have E_b15 := A15
  have F_b15_size : Fld Z h15 b15 "com/example/deodar/deodar/workingcopy/FileState" "size" "J" (.long (0 : Int64)) := D15 (Or.inr (hw _ (List.mem_of_getElem? (i := 15) rfl))) (ty := .long) (by decide)
  have F_b15_modified : Fld Z h15 b15 "com/example/deodar/deodar/workingcopy/FileState" "modified" "J" (.long (0 : Int64)) := D15 (Or.inr (hw _ (List.mem_of_getElem? (i := 17) rfl))) (ty := .long) (by decide)
  clear D15 A15
  show WP p.tables e below _ T15 (mkF m 16 #[.val (.ref a1), .val (.long q1), .second] [(.ref b15)])
  have bk16 : ∀ t, Steps p.tables e below (T15.setTop (mkF m 18 #[.val (.ref a1), .val (.long q1), .second] [(.ref a1), (.ref b15), (.ref b15)])) t → Steps p.tables e below (T15.setTop (mkF m 16 #[.val (.ref a1), .val (.long q1), .second] [(.ref b15)])) t := fun t k => by
    refine XS.dup X15.here hx rfl (hb hby d4_16) rfl rfl ?_
    show Steps p.tables e below (T15.setTop (mkF m 17 #[.val (.ref a1), .val (.long q1), .second] [(.ref b15), (.ref b15)])) t
    refine XS.aloadN X15.here hx rfl (hb hby d4_17) rfl rfl ?_
    exact k
  refine WP.st bk16 ?_
  clear bk16
  obtain ⟨T17, X17, e17, st17⟩ := getF X15 hx hZ hown (host := "") (Or.inl (hw _ (List.mem_of_getElem? (i := 14) rfl))) Via.refl e15 F_a1_size (g := (mkF m 18 #[.val (.ref a1), .val (.long q1), .second] [(.ref a1), (.ref b15), (.ref b15)])) rfl rfl (hb hby d4_18)
  refine WP.st st17 ?_
  clear st17
  show WP p.tables e below _ T17 (mkF m 21 #[.val (.ref a1), .val (.long q1), .second] [(.long u1), (.ref b15), (.ref b15)])
  have bk18 : ∀ t, Steps p.tables e below (T17.setTop (mkF m 24 #[.val (.ref a1), .val (.long q1), .second] [(.long (-9223372036854775808 : Int64)), (.long u1), (.ref b15), (.ref b15)])) t → Steps p.tables e below (T17.setTop (mkF m 21 #[.val (.ref a1), .val (.long q1), .second] [(.long u1), (.ref b15), (.ref b15)])) t := fun t k => by
    refine X17.ldc2Long hx hown (mvT hZ (hw _ (List.mem_of_getElem? (i := 34) rfl))) (g := (mkF m 21 #[.val (.ref a1), .val (.long q1), .second] [(.long u1), (.ref b15), (.ref b15)])) rfl (hb hby d4_21) _ ?_
    exact k
  refine WP.st bk18 ?_
  clear bk18
  obtain ⟨_, _, ⟨T19, L19, k19, n19⟩, -, X19, ⟨Lc19, hQ19, l19, y19, z19⟩, st19⟩ := X17.specialBack hx (y := (⟨"com/example/deodar/deodar/workingcopy/FileState", "<init>", "(JJ)V"⟩ : MethodName)) rfl hown (mvT hZ (hw _ (List.mem_of_getElem? (i := 35) rfl))) (mvT hZ (hw _ (List.mem_of_getElem? (i := 4) rfl))) (mvT hZ (hw _ (List.mem_of_getElem? (i := 5) rfl))) (by decide) (backOf (W := 1) (rm1 l Z a0 hw [] b15 u1 (-9223372036854775808 : Int64) (0 : Int64) (0 : Int64) h15 n0 Z0 E_b15 g_b15 F_b15_size F_b15_modified) hZ (hw _ (List.mem_of_getElem? (i := 5) rfl)) (hw _ (List.mem_of_getElem? (i := 2) rfl)) (by decide) (by decide)) (g := (mkF m 24 #[.val (.ref a1), .val (.long q1), .second] [(.long (-9223372036854775808 : Int64)), (.long u1), (.ref b15), (.ref b15)])) rfl (by rw [hml]; rfl) (Steps.refl _) (a := b15) (argsL := [(.long u1), (.long (-9223372036854775808 : Int64))]) (rest := [(.ref b15)]) (lenOf pd_1 rfl) rfl (by show 2 * 0 + _ ≤ _; exact Nat.le_of_eq rfl) (hb hby d4_24) (fun _ _ => ⟨rfl, e17, (by decide : 1 + 0 ≤ _), (by decide : 2 + 0 ≤ _)⟩)
  dsimp only [Pt.U, Pt.locs, Pt.cells, Pt.slots] at X19 l19 y19 z19 st19 hQ19
  subst l19 y19 z19
  obtain ⟨rfl, Nq19, Kq19, nF19_b15_size, nF19_b15_modified⟩ := hQ19
  replace NF := Fr.app NF Nq19
  clear Nq19
  refine WP.tr st19 ?_
  clear st19
  obtain ⟨h19, e19⟩ : ∃ h, T19.heap = h := ⟨_, rfl⟩
  rw [e19] at Kq19 nF19_b15_size nF19_b15_modified
  replace F_a1_size := F_a1_size.keep Kq19 (by exact ninS ne_a1_b15 (nin0))
  replace F_a1_modified := F_a1_modified.keep Kq19 (by exact ninS ne_a1_b15 (nin0))
  replace E_b15 := E_b15.keep Kq19
  clear F_b15_size
  clear F_b15_modified
  replace Z0 := Nat.le_trans Z0 Kq19.1
  replace KP := KP.trans Kq19 (allS (Or.inr sz_b15) all0)
  clear Kq19
  have F_b15_size := nF19_b15_size
  clear nF19_b15_size
  have F_b15_modified := nF19_b15_modified
  clear nF19_b15_modified
  show WP p.tables e below _ T19 (mkF m 27 #[.val (.ref a1), .val (.long q1), .second] [(.ref b15)])
  subst hG
  obtain ⟨fs, hr, hrun, hended, hW, hsame⟩ := X19.leave (v := some (.ref b15)) (fun h => by rw [Bd.returns] at h; cases h)
  refine WP.fin ⟨_, _, ?_, hrun, hended, _, _, rfl, ?_, ⟨_, rfl⟩, hW, hsame.mono (by decide) (by decide)⟩
  · exact retOut X19 hx Bd.returns rfl (Or.inr (Or.inr (Or.inr (Or.inr ⟨rfl, rfl, rfl⟩)))) (hb hby d4_27) hr
  · show Q4n Z a1 q1 u1 u2 h0 n0 _ T19.heap _
    rw [e19]
    exact ⟨b15, rfl, NF, KP, sz_b15, E_b15, F_b15_size, F_b15_modified⟩
theorem ef_5 (m : MethodId) (a1 : Addr) : entryFrame m #[(.ref a1)] 1 = mkF m 0 #[.val (.ref a1)] [] := by first | (simp [entryFrame, mkF, argsToLocals, Value.category]; done) | rfl
theorem d5_0 : decode prog_99_method_9_code 0 = .ok (.aload_n 0, 1) := by decide +kernel
theorem d5_1 : decode prog_99_method_9_code 1 = .ok (.getfield 9, 3) := by decide +kernel
theorem d5_4 : decode prog_99_method_9_code 4 = .ok (.lreturn, 1) := by decide +kernel
def Q5 (Z : State) (a1 : Addr) (w1 : Int64) (h0 : Heap) (n0 : Nat) (v : Option Value) (h : Heap) (L : List Loc) : Prop := v = some (.long w1) ∧ Fr n0 L ∧ h = h0
set_option maxRecDepth 65536 in
set_option maxHeartbeats 40000000 in
theorem rm5 (l : Launch) (Z : State) (a0 : Array Value) (hw : ∀ d ∈ tables_1, d.before a0 Z = true) (ws : List Jvm.Cond) (a1 : Addr) (w1 : Int64) (h0 : Heap) (n0 : Nat) (Z0 : n0 ≤ h0.size) (F_a1_size : Fld Z h0 a1 "com/example/deodar/deodar/workingcopy/FileState" "size" "J" (.long w1)) :
    MetFree l (⟨"com/example/deodar/deodar/workingcopy/FileState", "size", "()J"⟩ : MethodName) (head1 (Jvm.Cond.code (⟨"com/example/deodar/deodar/workingcopy/FileState", "size", "()J"⟩ : MethodName) prog_99_method_9_code 1 (some .long) :: ws) ({ frames := 0, cells := 0, slots := 0, locals := 0 } : Room)) (fun a U => a = #[(.ref a1)] ∧ Z.Warmed39 U.vm ∧ U.heap = h0) (fun _ _ _ _ _ => True) (fun _ U o U' => ∃ v L, o = .returned v ∧ Q5 Z a1 w1 h0 n0 v U'.heap L ∧ FrameEnd U o U' L ({ frames := 0, cells := 0, slots := 0, locals := 0 } : Room).cells ({ frames := 0, cells := 0, slots := 0, locals := 0 } : Room).slots) := by
  refine MetFree.of_bodySF (plainFor_of_name pn_1) hisR ?_
  intro p e s m args below meth c s₁ Bd hml0 hP hK
  obtain ⟨rfl, hZ, hh⟩ := hP
  have hx := Bd.exec
  have hby := Bd.bytes
  have hml : c.maxLocals = 1 := hml0
  have hown : s.vm.findClass "com/example/deodar/deodar/workingcopy/FileState" = some m.cls := findClass_of_methodNamed Bd.named
  have hnm := (name_of_methodNamed Bd.named Bd.method).1
  have X0 : Stand p l e ({ frames := 0, cells := 0, slots := 0, locals := 0 } : Room) s m #[(.ref a1)] below meth c s₁ [] 0 0 := Stand.of_body Bd
  have e0 : s₁.heap = h0 := by rw [← hh, Bd.state]; rfl
  have NF := Fr.nil n0
  refine WP.go ?_
  refine WP.cast (ef_5 m a1) ?_
  refine WP.name ?_
  intro G hG
  have bk20 : ∀ t, Steps p.tables e below (s₁.setTop (mkF m 1 #[.val (.ref a1)] [(.ref a1)])) t → Steps p.tables e below (s₁.setTop (mkF m 0 #[.val (.ref a1)] [])) t := fun t k => by
    refine XS.aloadN X0.here hx rfl (hb hby d5_0) rfl rfl ?_
    exact k
  refine WP.st bk20 ?_
  clear bk20
  obtain ⟨T21, X21, e21, st21⟩ := getF X0 hx hZ hown (host := "") (Or.inl (hw _ (List.mem_of_getElem? (i := 14) rfl))) Via.refl e0 F_a1_size (g := (mkF m 1 #[.val (.ref a1)] [(.ref a1)])) rfl rfl (hb hby d5_1)
  refine WP.st st21 ?_
  clear st21
  show WP p.tables e below _ T21 (mkF m 4 #[.val (.ref a1)] [(.long w1)])
  subst hG
  obtain ⟨fs, hr, hrun, hended, hW, hsame⟩ := X21.leave (v := some (.long w1)) (fun h => by rw [Bd.returns] at h; cases h)
  refine WP.fin ⟨_, _, ?_, hrun, hended, _, _, rfl, ?_, ⟨_, rfl⟩, hW, hsame.mono (by decide) (by decide)⟩
  · exact X21.lreturnOut hx Bd.returns (hb hby d5_4) hr
  · show Q5 Z a1 w1 h0 n0 _ T21.heap _
    rw [e21]
    exact ⟨rfl, NF, rfl⟩
theorem ef_6 (m : MethodId) (a1 : Addr) : entryFrame m #[(.ref a1)] 1 = mkF m 0 #[.val (.ref a1)] [] := by first | (simp [entryFrame, mkF, argsToLocals, Value.category]; done) | rfl
theorem d6_0 : decode prog_99_method_10_code 0 = .ok (.aload_n 0, 1) := by decide +kernel
theorem d6_1 : decode prog_99_method_10_code 1 = .ok (.getfield 15, 3) := by decide +kernel
theorem d6_4 : decode prog_99_method_10_code 4 = .ok (.lreturn, 1) := by decide +kernel
def Q6 (Z : State) (a1 : Addr) (w1 : Int64) (h0 : Heap) (n0 : Nat) (v : Option Value) (h : Heap) (L : List Loc) : Prop := v = some (.long w1) ∧ Fr n0 L ∧ h = h0
set_option maxRecDepth 65536 in
set_option maxHeartbeats 40000000 in
theorem rm6 (l : Launch) (Z : State) (a0 : Array Value) (hw : ∀ d ∈ tables_1, d.before a0 Z = true) (ws : List Jvm.Cond) (a1 : Addr) (w1 : Int64) (h0 : Heap) (n0 : Nat) (Z0 : n0 ≤ h0.size) (F_a1_modified : Fld Z h0 a1 "com/example/deodar/deodar/workingcopy/FileState" "modified" "J" (.long w1)) :
    MetFree l (⟨"com/example/deodar/deodar/workingcopy/FileState", "modified", "()J"⟩ : MethodName) (head1 (Jvm.Cond.code (⟨"com/example/deodar/deodar/workingcopy/FileState", "modified", "()J"⟩ : MethodName) prog_99_method_10_code 1 (some .long) :: ws) ({ frames := 0, cells := 0, slots := 0, locals := 0 } : Room)) (fun a U => a = #[(.ref a1)] ∧ Z.Warmed39 U.vm ∧ U.heap = h0) (fun _ _ _ _ _ => True) (fun _ U o U' => ∃ v L, o = .returned v ∧ Q6 Z a1 w1 h0 n0 v U'.heap L ∧ FrameEnd U o U' L ({ frames := 0, cells := 0, slots := 0, locals := 0 } : Room).cells ({ frames := 0, cells := 0, slots := 0, locals := 0 } : Room).slots) := by
  refine MetFree.of_bodySF (plainFor_of_name pn_1) hisR ?_
  intro p e s m args below meth c s₁ Bd hml0 hP hK
  obtain ⟨rfl, hZ, hh⟩ := hP
  have hx := Bd.exec
  have hby := Bd.bytes
  have hml : c.maxLocals = 1 := hml0
  have hown : s.vm.findClass "com/example/deodar/deodar/workingcopy/FileState" = some m.cls := findClass_of_methodNamed Bd.named
  have hnm := (name_of_methodNamed Bd.named Bd.method).1
  have X0 : Stand p l e ({ frames := 0, cells := 0, slots := 0, locals := 0 } : Room) s m #[(.ref a1)] below meth c s₁ [] 0 0 := Stand.of_body Bd
  have e0 : s₁.heap = h0 := by rw [← hh, Bd.state]; rfl
  have NF := Fr.nil n0
  refine WP.go ?_
  refine WP.cast (ef_6 m a1) ?_
  refine WP.name ?_
  intro G hG
  have bk22 : ∀ t, Steps p.tables e below (s₁.setTop (mkF m 1 #[.val (.ref a1)] [(.ref a1)])) t → Steps p.tables e below (s₁.setTop (mkF m 0 #[.val (.ref a1)] [])) t := fun t k => by
    refine XS.aloadN X0.here hx rfl (hb hby d6_0) rfl rfl ?_
    exact k
  refine WP.st bk22 ?_
  clear bk22
  obtain ⟨T23, X23, e23, st23⟩ := getF X0 hx hZ hown (host := "") (Or.inl (hw _ (List.mem_of_getElem? (i := 16) rfl))) Via.refl e0 F_a1_modified (g := (mkF m 1 #[.val (.ref a1)] [(.ref a1)])) rfl rfl (hb hby d6_1)
  refine WP.st st23 ?_
  clear st23
  show WP p.tables e below _ T23 (mkF m 4 #[.val (.ref a1)] [(.long w1)])
  subst hG
  obtain ⟨fs, hr, hrun, hended, hW, hsame⟩ := X23.leave (v := some (.long w1)) (fun h => by rw [Bd.returns] at h; cases h)
  refine WP.fin ⟨_, _, ?_, hrun, hended, _, _, rfl, ?_, ⟨_, rfl⟩, hW, hsame.mono (by decide) (by decide)⟩
  · exact X23.lreturnOut hx Bd.returns (hb hby d6_4) hr
  · show Q6 Z a1 w1 h0 n0 _ T23.heap _
    rw [e23]
    exact ⟨rfl, NF, rfl⟩
theorem ef_0 (m : MethodId) (q1 : Int64) (q2 : Int64) (q3 : Int64) (p4 : Int32) : entryFrame m #[(.long q1), (.long q2), (.long q3), (.int p4)] maxLocals = mkF m 0 #[.val (.long q1), .second, .val (.long q2), .second, .val (.long q3), .second, .val (.int p4), .unset, .unset, .unset, .unset, .unset, .unset, .unset] [] := by first | (simp [entryFrame, mkF, argsToLocals, Value.category, maxLocals]; done) | rfl
theorem pn_2 : plainName "com/example/deodar/deodar/workingcopy/FileStateToRecordPinLaw" = true := by first | (simp [plainName, overriddenIn]; done) | decide +kernel
theorem pd_2 : parseMethodDescriptor "(J)Lcom/example/deodar/deodar/workingcopy/FileState;" = some ⟨[.long], some (.object "com/example/deodar/deodar/workingcopy/FileState")⟩ := by decide +kernel
theorem pd_3 : parseMethodDescriptor "()J" = some ⟨[], some .long⟩ := by decide +kernel
def Q0 (Z : State) (q1 : Int64) (q2 : Int64) (q3 : Int64) (p4 : Int32) (h0 : Heap) (n0 : Nat) (v : Option Value) (h : Heap) (L : List Loc) : Prop := v = some (.int 1) ∧ Fr n0 L
set_option maxRecDepth 65536 in
set_option maxHeartbeats 40000000 in
theorem rm0 (l : Launch) (Z : State) (a0 : Array Value) (hw : ∀ d ∈ tables_1, d.before a0 Z = true) (ws : List Jvm.Cond) (q1 : Int64) (q2 : Int64) (q3 : Int64) (p4 : Int32) (h0 : Heap) (n0 : Nat) (Z0 : n0 ≤ h0.size)  :
    MetFree l x (head1 (Jvm.Cond.code x code maxLocals ret :: ws) room_1) (fun a U => a = #[(.long q1), (.long q2), (.long q3), (.int p4)] ∧ Z.Warmed39 U.vm ∧ U.heap = h0) (fun _ _ _ _ _ => True) (fun _ U o U' => ∃ v L, o = .returned v ∧ Q0 Z q1 q2 q3 p4 h0 n0 v U'.heap L ∧ FrameEnd U o U' L room_1.cells room_1.slots) := by
  refine MetFree.of_bodySF (plainFor_of_name pn_2) hisR ?_
  intro p e s m args below meth c s₁ Bd hml0 hP hK
  obtain ⟨rfl, hZ, hh⟩ := hP
  have hx := Bd.exec
  have hby := Bd.bytes
  have hml : c.maxLocals = 14 := hml0
  have hown : s.vm.findClass "com/example/deodar/deodar/workingcopy/FileStateToRecordPinLaw" = some m.cls := findClass_of_methodNamed Bd.named
  have hnm := (name_of_methodNamed Bd.named Bd.method).1
  have X0 : Stand p l e room_1 s m #[(.long q1), (.long q2), (.long q3), (.int p4)] below meth c s₁ [] 0 0 := Stand.of_body Bd
  have e0 : s₁.heap = h0 := by rw [← hh, Bd.state]; rfl
  have NF := Fr.nil n0
  refine WP.go ?_
  refine WP.cast (ef_0 m q1 q2 q3 p4) ?_
  refine WP.name ?_
  intro G hG
  have bk25 : ∀ t, Steps p.tables e below (s₁.setTop (mkF m 8 #[.val (.long q1), .second, .val (.long q2), .second, .val (.long q3), .second, .val (.int p4), .unset, .unset, .val (.int (p4 &&& (3 : Int32))), .unset, .unset, .unset, .unset] [(.int (p4 &&& (3 : Int32)))])) t → Steps p.tables e below (s₁.setTop (mkF m 0 #[.val (.long q1), .second, .val (.long q2), .second, .val (.long q3), .second, .val (.int p4), .unset, .unset, .unset, .unset, .unset, .unset, .unset] [])) t := fun t k => by
    refine XS.iload X0.here hx rfl (hb hby at_0) rfl ?_
    show Steps p.tables e below (s₁.setTop (mkF m 2 #[.val (.long q1), .second, .val (.long q2), .second, .val (.long q3), .second, .val (.int p4), .unset, .unset, .unset, .unset, .unset, .unset, .unset] [(.int p4)])) t
    refine XS.iconst X0.here hx rfl (hb hby at_2) ?_
    show Steps p.tables e below (s₁.setTop (mkF m 3 #[.val (.long q1), .second, .val (.long q2), .second, .val (.long q3), .second, .val (.int p4), .unset, .unset, .unset, .unset, .unset, .unset, .unset] [(.int (3 : Int32)), (.int p4)])) t
    refine XS.iand X0.here hx rfl (hb hby at_3) rfl ?_
    show Steps p.tables e below (s₁.setTop (mkF m 4 #[.val (.long q1), .second, .val (.long q2), .second, .val (.long q3), .second, .val (.int p4), .unset, .unset, .unset, .unset, .unset, .unset, .unset] [(.int (p4 &&& (3 : Int32)))])) t
    refine XS.istore X0.here hx rfl (hb hby at_4) rfl (l' := #[.val (.long q1), .second, .val (.long q2), .second, .val (.long q3), .second, .val (.int p4), .unset, .unset, .val (.int (p4 &&& (3 : Int32))), .unset, .unset, .unset, .unset]) rfl ?_
    show Steps p.tables e below (s₁.setTop (mkF m 6 #[.val (.long q1), .second, .val (.long q2), .second, .val (.long q3), .second, .val (.int p4), .unset, .unset, .val (.int (p4 &&& (3 : Int32))), .unset, .unset, .unset, .unset] [])) t
    refine XS.iload X0.here hx rfl (hb hby at_6) rfl ?_
    exact k
  refine WP.st bk25 ?_
  clear bk25
  by_cases hc24 : (p4 &&& (3 : Int32)) = (0 : Int32)
  · skip
    have bk26 : ∀ t, Steps p.tables e below (s₁.setTop (mkF m 49 #[.val (.long q1), .second, .val (.long q2), .second, .val (.long q3), .second, .val (.int p4), .val (.long q3), .second, .val (.int (p4 &&& (3 : Int32))), .unset, .unset, .unset, .unset] [])) t → Steps p.tables e below (s₁.setTop (mkF m 8 #[.val (.long q1), .second, .val (.long q2), .second, .val (.long q3), .second, .val (.int p4), .unset, .unset, .val (.int (p4 &&& (3 : Int32))), .unset, .unset, .unset, .unset] [(.int (p4 &&& (3 : Int32)))])) t := fun t k => by
      refine XS.ifNo X0.here hx rfl (hb hby at_8) rfl ((if0 _ _).trans (teq hc24).2) ?_
      show Steps p.tables e below (s₁.setTop (mkF m 11 #[.val (.long q1), .second, .val (.long q2), .second, .val (.long q3), .second, .val (.int p4), .unset, .unset, .val (.int (p4 &&& (3 : Int32))), .unset, .unset, .unset, .unset] [])) t
      refine XS.lload X0.here hx rfl (hb hby at_11) rfl ?_
      show Steps p.tables e below (s₁.setTop (mkF m 13 #[.val (.long q1), .second, .val (.long q2), .second, .val (.long q3), .second, .val (.int p4), .unset, .unset, .val (.int (p4 &&& (3 : Int32))), .unset, .unset, .unset, .unset] [(.long q3)])) t
      refine XS.lstore X0.here hx rfl (hb hby at_13) rfl (l' := #[.val (.long q1), .second, .val (.long q2), .second, .val (.long q3), .second, .val (.int p4), .val (.long q3), .second, .val (.int (p4 &&& (3 : Int32))), .unset, .unset, .unset, .unset]) rfl ?_
      show Steps p.tables e below (s₁.setTop (mkF m 15 #[.val (.long q1), .second, .val (.long q2), .second, .val (.long q3), .second, .val (.int p4), .val (.long q3), .second, .val (.int (p4 &&& (3 : Int32))), .unset, .unset, .unset, .unset] [])) t
      refine XS.goto X0.here hx rfl (pc0 := 15) (pc' := 49) rfl (hb hby at_15) (by decide) (by decide) ?_
      exact k
    refine WP.st bk26 ?_
    clear bk26
    obtain ⟨T27, h27, X27, e27, E27, A27, D27, -, st27⟩ := newO X0 hx hZ hown (hw _ (List.mem_of_getElem? (i := 0) rfl)) (hw _ (List.mem_of_getElem? (i := 1) rfl)) (hw _ (List.mem_of_getElem? (i := 2) rfl)) e0 (g := (mkF m 49 #[.val (.long q1), .second, .val (.long q2), .second, .val (.long q3), .second, .val (.int p4), .val (.long q3), .second, .val (.int (p4 &&& (3 : Int32))), .unset, .unset, .unset, .unset] [])) rfl (hb hby at_49) (by decide) (by decide)
    obtain ⟨b27, g27⟩ : ∃ z, z = h0.size := ⟨_, rfl⟩
    rw [← g27] at A27 D27 st27
    refine WP.st st27 ?_
    clear st27
    have g_b27 : n0 ≤ b27 := Nat.le_trans Z0 (Nat.le_of_eq g27.symm)
    replace Z0 := Nat.le_trans Z0 E27.1
    have E_b27 := A27
    have F_b27_size : Fld Z h27 b27 "com/example/deodar/deodar/workingcopy/FileState" "size" "J" (.long (0 : Int64)) := D27 (Or.inr (hw _ (List.mem_of_getElem? (i := 15) rfl))) (ty := .long) (by decide)
    have F_b27_modified : Fld Z h27 b27 "com/example/deodar/deodar/workingcopy/FileState" "modified" "J" (.long (0 : Int64)) := D27 (Or.inr (hw _ (List.mem_of_getElem? (i := 17) rfl))) (ty := .long) (by decide)
    clear D27 A27
    show WP p.tables e below _ T27 (mkF m 52 #[.val (.long q1), .second, .val (.long q2), .second, .val (.long q3), .second, .val (.int p4), .val (.long q3), .second, .val (.int (p4 &&& (3 : Int32))), .unset, .unset, .unset, .unset] [(.ref b27)])
    have bk28 : ∀ t, Steps p.tables e below (T27.setTop (mkF m 55 #[.val (.long q1), .second, .val (.long q2), .second, .val (.long q3), .second, .val (.int p4), .val (.long q3), .second, .val (.int (p4 &&& (3 : Int32))), .unset, .unset, .unset, .unset] [(.long q2), (.long q1), (.ref b27), (.ref b27)])) t → Steps p.tables e below (T27.setTop (mkF m 52 #[.val (.long q1), .second, .val (.long q2), .second, .val (.long q3), .second, .val (.int p4), .val (.long q3), .second, .val (.int (p4 &&& (3 : Int32))), .unset, .unset, .unset, .unset] [(.ref b27)])) t := fun t k => by
      refine XS.dup X27.here hx rfl (hb hby at_52) rfl rfl ?_
      show Steps p.tables e below (T27.setTop (mkF m 53 #[.val (.long q1), .second, .val (.long q2), .second, .val (.long q3), .second, .val (.int p4), .val (.long q3), .second, .val (.int (p4 &&& (3 : Int32))), .unset, .unset, .unset, .unset] [(.ref b27), (.ref b27)])) t
      refine XS.lloadN X27.here hx rfl (hb hby at_53) rfl ?_
      show Steps p.tables e below (T27.setTop (mkF m 54 #[.val (.long q1), .second, .val (.long q2), .second, .val (.long q3), .second, .val (.int p4), .val (.long q3), .second, .val (.int (p4 &&& (3 : Int32))), .unset, .unset, .unset, .unset] [(.long q1), (.ref b27), (.ref b27)])) t
      refine XS.lloadN X27.here hx rfl (hb hby at_54) rfl ?_
      exact k
    refine WP.st bk28 ?_
    clear bk28
    obtain ⟨_, _, ⟨T29, L29, k29, n29⟩, -, X29, ⟨Lc29, hQ29, l29, y29, z29⟩, st29⟩ := X27.specialBack hx (y := (⟨"com/example/deodar/deodar/workingcopy/FileState", "<init>", "(JJ)V"⟩ : MethodName)) rfl hown (mvT hZ (hw _ (List.mem_of_getElem? (i := 3) rfl))) (mvT hZ (hw _ (List.mem_of_getElem? (i := 4) rfl))) (mvT hZ (hw _ (List.mem_of_getElem? (i := 5) rfl))) (by decide) (backOf (W := 1) (rm1 l Z a0 hw [] b27 q1 q2 (0 : Int64) (0 : Int64) h27 n0 Z0 E_b27 g_b27 F_b27_size F_b27_modified) hZ (hw _ (List.mem_of_getElem? (i := 5) rfl)) (hw _ (List.mem_of_getElem? (i := 2) rfl)) (by decide) (by decide)) (g := (mkF m 55 #[.val (.long q1), .second, .val (.long q2), .second, .val (.long q3), .second, .val (.int p4), .val (.long q3), .second, .val (.int (p4 &&& (3 : Int32))), .unset, .unset, .unset, .unset] [(.long q2), (.long q1), (.ref b27), (.ref b27)])) rfl (by rw [hml]; rfl) (Steps.refl _) (a := b27) (argsL := [(.long q1), (.long q2)]) (rest := [(.ref b27)]) (lenOf pd_1 rfl) rfl (by show 2 * 0 + _ ≤ _; exact Nat.le_of_eq rfl) (hb hby at_55) (fun _ _ => ⟨rfl, e27, (by decide : 1 + 0 ≤ _), (by decide : 2 + 0 ≤ _)⟩)
    dsimp only [Pt.U, Pt.locs, Pt.cells, Pt.slots] at X29 l29 y29 z29 st29 hQ29
    subst l29 y29 z29
    obtain ⟨rfl, Nq29, Kq29, nF29_b27_size, nF29_b27_modified⟩ := hQ29
    replace NF := Fr.app NF Nq29
    clear Nq29
    refine WP.tr st29 ?_
    clear st29
    obtain ⟨h29, e29⟩ : ∃ h, T29.heap = h := ⟨_, rfl⟩
    rw [e29] at Kq29 nF29_b27_size nF29_b27_modified
    replace E_b27 := E_b27.keep Kq29
    clear F_b27_size
    clear F_b27_modified
    replace Z0 := Nat.le_trans Z0 Kq29.1
    clear Kq29
    have F_b27_size := nF29_b27_size
    clear nF29_b27_size
    have F_b27_modified := nF29_b27_modified
    clear nF29_b27_modified
    show WP p.tables e below _ T29 (mkF m 58 #[.val (.long q1), .second, .val (.long q2), .second, .val (.long q3), .second, .val (.int p4), .val (.long q3), .second, .val (.int (p4 &&& (3 : Int32))), .unset, .unset, .unset, .unset] [(.ref b27)])
    have bk30 : ∀ t, Steps p.tables e below (T29.setTop (mkF m 64 #[.val (.long q1), .second, .val (.long q2), .second, .val (.long q3), .second, .val (.int p4), .val (.long q3), .second, .val (.int (p4 &&& (3 : Int32))), .val (.ref b27), .unset, .unset, .unset] [(.long q3), (.ref b27)])) t → Steps p.tables e below (T29.setTop (mkF m 58 #[.val (.long q1), .second, .val (.long q2), .second, .val (.long q3), .second, .val (.int p4), .val (.long q3), .second, .val (.int (p4 &&& (3 : Int32))), .unset, .unset, .unset, .unset] [(.ref b27)])) t := fun t k => by
      refine XS.astore X29.here hx rfl (hb hby at_58) rfl rfl (l' := #[.val (.long q1), .second, .val (.long q2), .second, .val (.long q3), .second, .val (.int p4), .val (.long q3), .second, .val (.int (p4 &&& (3 : Int32))), .val (.ref b27), .unset, .unset, .unset]) rfl ?_
      show Steps p.tables e below (T29.setTop (mkF m 60 #[.val (.long q1), .second, .val (.long q2), .second, .val (.long q3), .second, .val (.int p4), .val (.long q3), .second, .val (.int (p4 &&& (3 : Int32))), .val (.ref b27), .unset, .unset, .unset] [])) t
      refine XS.aload X29.here hx rfl (hb hby at_60) rfl rfl ?_
      show Steps p.tables e below (T29.setTop (mkF m 62 #[.val (.long q1), .second, .val (.long q2), .second, .val (.long q3), .second, .val (.int p4), .val (.long q3), .second, .val (.int (p4 &&& (3 : Int32))), .val (.ref b27), .unset, .unset, .unset] [(.ref b27)])) t
      refine XS.lload X29.here hx rfl (hb hby at_62) rfl ?_
      exact k
    refine WP.st bk30 ?_
    clear bk30
    by_cases hc31 : (lcmpW q2 q3) < (0 : Int32)
    · skip
      obtain ⟨cq32, kq32, q32a, q32b, q32c⟩ := isOf hZ e29 E_b27
      obtain ⟨_, _, ⟨T32, L32, k32, n32⟩, -, X32, ⟨Lc32, hQ32, l32, y32, z32⟩, st32⟩ := X29.virtualBack hx (y := (⟨"com/example/deodar/deodar/workingcopy/FileState", "toRecord", "(J)Lcom/example/deodar/deodar/workingcopy/FileState;"⟩ : MethodName)) (z := (⟨"com/example/deodar/deodar/workingcopy/FileState", "toRecord", "(J)Lcom/example/deodar/deodar/workingcopy/FileState;"⟩ : MethodName)) hown (mvT hZ (hw _ (List.mem_of_getElem? (i := 18) rfl))) (mvT hZ (hw _ (List.mem_of_getElem? (i := 19) rfl))) (notFace_of_selects (args := #[]) (mvT hZ (hw _ (List.mem_of_getElem? (i := 21) rfl)))) (mvT hZ (hw _ (List.mem_of_getElem? (i := 21) rfl))) (mvT hZ (hw _ (List.mem_of_getElem? (i := 20) rfl))) (by decide) (backOf (W := 0) (rm4y l Z a0 hw [] b27 q3 q1 q2 h29 n0 Z0 F_b27_size F_b27_modified hc31) hZ (hw _ (List.mem_of_getElem? (i := 22) rfl)) (hw _ (List.mem_of_getElem? (i := 2) rfl)) (by decide) (by decide)) q32a q32c (g := (mkF m 64 #[.val (.long q1), .second, .val (.long q2), .second, .val (.long q3), .second, .val (.int p4), .val (.long q3), .second, .val (.int (p4 &&& (3 : Int32))), .val (.ref b27), .unset, .unset, .unset] [(.long q3), (.ref b27)])) rfl (by rw [hml]; rfl) (Steps.refl _) (argsL := [(.long q3)]) (rest := []) (lenOf pd_2 rfl) rfl (by show 2 * 0 + _ ≤ _; exact Nat.le_of_eq rfl) (hb hby at_64) (fun _ _ => ⟨rfl, e29, (by decide : 1 + 0 ≤ _), (by decide : 2 + 0 ≤ _)⟩)
      dsimp only [Pt.U, Pt.locs, Pt.cells, Pt.slots] at X32 l32 y32 z32 st32 hQ32
      subst l32 y32 z32
      obtain ⟨rfl, Nq32, Kq32⟩ := hQ32
      replace NF := Fr.app NF Nq32
      clear Nq32
      refine WP.tr st32 ?_
      clear st32
      replace Kq32 := Kq32.trans (rfl : h29 = h29)
      show WP p.tables e below _ T32 (mkF m 67 #[.val (.long q1), .second, .val (.long q2), .second, .val (.long q3), .second, .val (.int p4), .val (.long q3), .second, .val (.int (p4 &&& (3 : Int32))), .val (.ref b27), .unset, .unset, .unset] [(.ref b27)])
      have bk33 : ∀ t, Steps p.tables e below (T32.setTop (mkF m 94 #[.val (.long q1), .second, .val (.long q2), .second, .val (.long q3), .second, .val (.int p4), .val (.long q3), .second, .val (.int (p4 &&& (3 : Int32))), .val (.ref b27), .val (.ref b27), .val (.long q2), .second] [(.ref b27)])) t → Steps p.tables e below (T32.setTop (mkF m 67 #[.val (.long q1), .second, .val (.long q2), .second, .val (.long q3), .second, .val (.int p4), .val (.long q3), .second, .val (.int (p4 &&& (3 : Int32))), .val (.ref b27), .unset, .unset, .unset] [(.ref b27)])) t := fun t k => by
        refine XS.astore X32.here hx rfl (hb hby at_67) rfl rfl (l' := #[.val (.long q1), .second, .val (.long q2), .second, .val (.long q3), .second, .val (.int p4), .val (.long q3), .second, .val (.int (p4 &&& (3 : Int32))), .val (.ref b27), .val (.ref b27), .unset, .unset]) rfl ?_
        show Steps p.tables e below (T32.setTop (mkF m 69 #[.val (.long q1), .second, .val (.long q2), .second, .val (.long q3), .second, .val (.int p4), .val (.long q3), .second, .val (.int (p4 &&& (3 : Int32))), .val (.ref b27), .val (.ref b27), .unset, .unset] [])) t
        refine XS.aload X32.here hx rfl (hb hby at_69) rfl rfl ?_
        show Steps p.tables e below (T32.setTop (mkF m 71 #[.val (.long q1), .second, .val (.long q2), .second, .val (.long q3), .second, .val (.int p4), .val (.long q3), .second, .val (.int (p4 &&& (3 : Int32))), .val (.ref b27), .val (.ref b27), .unset, .unset] [(.ref b27)])) t
        refine XS.ifnonnullYes X32.here hx rfl (pc0 := 71) (pc' := 76) rfl (hb hby at_71) rfl (by decide) (by decide) ?_
        show Steps p.tables e below (T32.setTop (mkF m 76 #[.val (.long q1), .second, .val (.long q2), .second, .val (.long q3), .second, .val (.int p4), .val (.long q3), .second, .val (.int (p4 &&& (3 : Int32))), .val (.ref b27), .val (.ref b27), .unset, .unset] [])) t
        refine XS.lloadN X32.here hx rfl (hb hby at_76) rfl ?_
        show Steps p.tables e below (T32.setTop (mkF m 77 #[.val (.long q1), .second, .val (.long q2), .second, .val (.long q3), .second, .val (.int p4), .val (.long q3), .second, .val (.int (p4 &&& (3 : Int32))), .val (.ref b27), .val (.ref b27), .unset, .unset] [(.long q2)])) t
        refine XS.lload X32.here hx rfl (hb hby at_77) rfl ?_
        show Steps p.tables e below (T32.setTop (mkF m 79 #[.val (.long q1), .second, .val (.long q2), .second, .val (.long q3), .second, .val (.int p4), .val (.long q3), .second, .val (.int (p4 &&& (3 : Int32))), .val (.ref b27), .val (.ref b27), .unset, .unset] [(.long q3), (.long q2)])) t
        refine XS.lcmp X32.here hx rfl (hb hby at_79) rfl ?_
        show Steps p.tables e below (T32.setTop (mkF m 80 #[.val (.long q1), .second, .val (.long q2), .second, .val (.long q3), .second, .val (.int p4), .val (.long q3), .second, .val (.int (p4 &&& (3 : Int32))), .val (.ref b27), .val (.ref b27), .unset, .unset] [(.int (lcmpW q2 q3))])) t
        refine XS.ifNo X32.here hx rfl (hb hby at_80) rfl ((if0 _ _).trans (tlt hc31).2.1) ?_
        show Steps p.tables e below (T32.setTop (mkF m 83 #[.val (.long q1), .second, .val (.long q2), .second, .val (.long q3), .second, .val (.int p4), .val (.long q3), .second, .val (.int (p4 &&& (3 : Int32))), .val (.ref b27), .val (.ref b27), .unset, .unset] [])) t
        refine XS.lloadN X32.here hx rfl (hb hby at_83) rfl ?_
        show Steps p.tables e below (T32.setTop (mkF m 84 #[.val (.long q1), .second, .val (.long q2), .second, .val (.long q3), .second, .val (.int p4), .val (.long q3), .second, .val (.int (p4 &&& (3 : Int32))), .val (.ref b27), .val (.ref b27), .unset, .unset] [(.long q2)])) t
        refine XS.goto X32.here hx rfl (pc0 := 84) (pc' := 90) rfl (hb hby at_84) (by decide) (by decide) ?_
        show Steps p.tables e below (T32.setTop (mkF m 90 #[.val (.long q1), .second, .val (.long q2), .second, .val (.long q3), .second, .val (.int p4), .val (.long q3), .second, .val (.int (p4 &&& (3 : Int32))), .val (.ref b27), .val (.ref b27), .unset, .unset] [(.long q2)])) t
        refine XS.lstore X32.here hx rfl (hb hby at_90) rfl (l' := #[.val (.long q1), .second, .val (.long q2), .second, .val (.long q3), .second, .val (.int p4), .val (.long q3), .second, .val (.int (p4 &&& (3 : Int32))), .val (.ref b27), .val (.ref b27), .val (.long q2), .second]) rfl ?_
        show Steps p.tables e below (T32.setTop (mkF m 92 #[.val (.long q1), .second, .val (.long q2), .second, .val (.long q3), .second, .val (.int p4), .val (.long q3), .second, .val (.int (p4 &&& (3 : Int32))), .val (.ref b27), .val (.ref b27), .val (.long q2), .second] [])) t
        refine XS.aload X32.here hx rfl (hb hby at_92) rfl rfl ?_
        exact k
      refine WP.st bk33 ?_
      clear bk33
      obtain ⟨cq34, kq34, q34a, q34b, q34c⟩ := isOf hZ Kq32 E_b27
      obtain ⟨_, _, ⟨T34, L34, k34, n34⟩, -, X34, ⟨Lc34, hQ34, l34, y34, z34⟩, st34⟩ := X32.virtualBack hx (y := (⟨"com/example/deodar/deodar/workingcopy/FileState", "size", "()J"⟩ : MethodName)) (z := (⟨"com/example/deodar/deodar/workingcopy/FileState", "size", "()J"⟩ : MethodName)) hown (mvT hZ (hw _ (List.mem_of_getElem? (i := 23) rfl))) (mvT hZ (hw _ (List.mem_of_getElem? (i := 24) rfl))) (notFace_of_selects (args := #[]) (mvT hZ (hw _ (List.mem_of_getElem? (i := 26) rfl)))) (mvT hZ (hw _ (List.mem_of_getElem? (i := 26) rfl))) (mvT hZ (hw _ (List.mem_of_getElem? (i := 25) rfl))) (by decide) (backOf (W := 0) (rm5 l Z a0 hw [] b27 q1 h29 n0 Z0 F_b27_size) hZ (hw _ (List.mem_of_getElem? (i := 27) rfl)) (hw _ (List.mem_of_getElem? (i := 2) rfl)) (by decide) (by decide)) q34a q34c (g := (mkF m 94 #[.val (.long q1), .second, .val (.long q2), .second, .val (.long q3), .second, .val (.int p4), .val (.long q3), .second, .val (.int (p4 &&& (3 : Int32))), .val (.ref b27), .val (.ref b27), .val (.long q2), .second] [(.ref b27)])) rfl (by rw [hml]; rfl) (Steps.refl _) (argsL := []) (rest := []) (lenOf pd_3 rfl) rfl (by show 2 * 0 + _ ≤ _; exact Nat.le_of_eq rfl) (hb hby at_94) (fun _ _ => ⟨rfl, Kq32, (by decide : 1 + 0 ≤ _), (by decide : 2 + 0 ≤ _)⟩)
      dsimp only [Pt.U, Pt.locs, Pt.cells, Pt.slots] at X34 l34 y34 z34 st34 hQ34
      subst l34 y34 z34
      obtain ⟨rfl, Nq34, Kq34⟩ := hQ34
      replace NF := Fr.app NF Nq34
      clear Nq34
      refine WP.tr st34 ?_
      clear st34
      replace Kq34 := Kq34.trans (rfl : h29 = h29)
      show WP p.tables e below _ T34 (mkF m 97 #[.val (.long q1), .second, .val (.long q2), .second, .val (.long q3), .second, .val (.int p4), .val (.long q3), .second, .val (.int (p4 &&& (3 : Int32))), .val (.ref b27), .val (.ref b27), .val (.long q2), .second] [(.long q1)])
      have bk35 : ∀ t, Steps p.tables e below (T34.setTop (mkF m 104 #[.val (.long q1), .second, .val (.long q2), .second, .val (.long q3), .second, .val (.int p4), .val (.long q3), .second, .val (.int (p4 &&& (3 : Int32))), .val (.ref b27), .val (.ref b27), .val (.long q2), .second] [(.ref b27)])) t → Steps p.tables e below (T34.setTop (mkF m 97 #[.val (.long q1), .second, .val (.long q2), .second, .val (.long q3), .second, .val (.int p4), .val (.long q3), .second, .val (.int (p4 &&& (3 : Int32))), .val (.ref b27), .val (.ref b27), .val (.long q2), .second] [(.long q1)])) t := fun t k => by
        refine XS.lloadN X34.here hx rfl (hb hby at_97) rfl ?_
        show Steps p.tables e below (T34.setTop (mkF m 98 #[.val (.long q1), .second, .val (.long q2), .second, .val (.long q3), .second, .val (.int p4), .val (.long q3), .second, .val (.int (p4 &&& (3 : Int32))), .val (.ref b27), .val (.ref b27), .val (.long q2), .second] [(.long q1), (.long q1)])) t
        refine XS.lcmp X34.here hx rfl (hb hby at_98) rfl ?_
        show Steps p.tables e below (T34.setTop (mkF m 99 #[.val (.long q1), .second, .val (.long q2), .second, .val (.long q3), .second, .val (.int p4), .val (.long q3), .second, .val (.int (p4 &&& (3 : Int32))), .val (.ref b27), .val (.ref b27), .val (.long q2), .second] [(.int (lcmpW q1 q1))])) t
        refine XS.ifNo X34.here hx rfl (hb hby at_99) rfl ((if0 _ _).trans (teq ((lw_eq _ _).2 rfl)).2) ?_
        show Steps p.tables e below (T34.setTop (mkF m 102 #[.val (.long q1), .second, .val (.long q2), .second, .val (.long q3), .second, .val (.int p4), .val (.long q3), .second, .val (.int (p4 &&& (3 : Int32))), .val (.ref b27), .val (.ref b27), .val (.long q2), .second] [])) t
        refine XS.aload X34.here hx rfl (hb hby at_102) rfl rfl ?_
        exact k
      refine WP.st bk35 ?_
      clear bk35
      obtain ⟨cq36, kq36, q36a, q36b, q36c⟩ := isOf hZ Kq34 E_b27
      obtain ⟨_, _, ⟨T36, L36, k36, n36⟩, -, X36, ⟨Lc36, hQ36, l36, y36, z36⟩, st36⟩ := X34.virtualBack hx (y := (⟨"com/example/deodar/deodar/workingcopy/FileState", "modified", "()J"⟩ : MethodName)) (z := (⟨"com/example/deodar/deodar/workingcopy/FileState", "modified", "()J"⟩ : MethodName)) hown (mvT hZ (hw _ (List.mem_of_getElem? (i := 28) rfl))) (mvT hZ (hw _ (List.mem_of_getElem? (i := 29) rfl))) (notFace_of_selects (args := #[]) (mvT hZ (hw _ (List.mem_of_getElem? (i := 31) rfl)))) (mvT hZ (hw _ (List.mem_of_getElem? (i := 31) rfl))) (mvT hZ (hw _ (List.mem_of_getElem? (i := 30) rfl))) (by decide) (backOf (W := 0) (rm6 l Z a0 hw [] b27 q2 h29 n0 Z0 F_b27_modified) hZ (hw _ (List.mem_of_getElem? (i := 32) rfl)) (hw _ (List.mem_of_getElem? (i := 2) rfl)) (by decide) (by decide)) q36a q36c (g := (mkF m 104 #[.val (.long q1), .second, .val (.long q2), .second, .val (.long q3), .second, .val (.int p4), .val (.long q3), .second, .val (.int (p4 &&& (3 : Int32))), .val (.ref b27), .val (.ref b27), .val (.long q2), .second] [(.ref b27)])) rfl (by rw [hml]; rfl) (Steps.refl _) (argsL := []) (rest := []) (lenOf pd_3 rfl) rfl (by show 2 * 0 + _ ≤ _; exact Nat.le_of_eq rfl) (hb hby at_104) (fun _ _ => ⟨rfl, Kq34, (by decide : 1 + 0 ≤ _), (by decide : 2 + 0 ≤ _)⟩)
      dsimp only [Pt.U, Pt.locs, Pt.cells, Pt.slots] at X36 l36 y36 z36 st36 hQ36
      subst l36 y36 z36
      obtain ⟨rfl, Nq36, Kq36⟩ := hQ36
      replace NF := Fr.app NF Nq36
      clear Nq36
      refine WP.tr st36 ?_
      clear st36
      replace Kq36 := Kq36.trans (rfl : h29 = h29)
      show WP p.tables e below _ T36 (mkF m 107 #[.val (.long q1), .second, .val (.long q2), .second, .val (.long q3), .second, .val (.int p4), .val (.long q3), .second, .val (.int (p4 &&& (3 : Int32))), .val (.ref b27), .val (.ref b27), .val (.long q2), .second] [(.long q2)])
      have bk37 : ∀ t, Steps p.tables e below (T36.setTop (mkF m 118 #[.val (.long q1), .second, .val (.long q2), .second, .val (.long q3), .second, .val (.int p4), .val (.long q3), .second, .val (.int (p4 &&& (3 : Int32))), .val (.ref b27), .val (.ref b27), .val (.long q2), .second] [(.int (1 : Int32))])) t → Steps p.tables e below (T36.setTop (mkF m 107 #[.val (.long q1), .second, .val (.long q2), .second, .val (.long q3), .second, .val (.int p4), .val (.long q3), .second, .val (.int (p4 &&& (3 : Int32))), .val (.ref b27), .val (.ref b27), .val (.long q2), .second] [(.long q2)])) t := fun t k => by
        refine XS.lload X36.here hx rfl (hb hby at_107) rfl ?_
        show Steps p.tables e below (T36.setTop (mkF m 109 #[.val (.long q1), .second, .val (.long q2), .second, .val (.long q3), .second, .val (.int p4), .val (.long q3), .second, .val (.int (p4 &&& (3 : Int32))), .val (.ref b27), .val (.ref b27), .val (.long q2), .second] [(.long q2), (.long q2)])) t
        refine XS.lcmp X36.here hx rfl (hb hby at_109) rfl ?_
        show Steps p.tables e below (T36.setTop (mkF m 110 #[.val (.long q1), .second, .val (.long q2), .second, .val (.long q3), .second, .val (.int p4), .val (.long q3), .second, .val (.int (p4 &&& (3 : Int32))), .val (.ref b27), .val (.ref b27), .val (.long q2), .second] [(.int (lcmpW q2 q2))])) t
        refine XS.ifNo X36.here hx rfl (hb hby at_110) rfl ((if0 _ _).trans (teq ((lw_eq _ _).2 rfl)).2) ?_
        show Steps p.tables e below (T36.setTop (mkF m 113 #[.val (.long q1), .second, .val (.long q2), .second, .val (.long q3), .second, .val (.int p4), .val (.long q3), .second, .val (.int (p4 &&& (3 : Int32))), .val (.ref b27), .val (.ref b27), .val (.long q2), .second] [])) t
        refine XS.iconst X36.here hx rfl (hb hby at_113) ?_
        show Steps p.tables e below (T36.setTop (mkF m 114 #[.val (.long q1), .second, .val (.long q2), .second, .val (.long q3), .second, .val (.int p4), .val (.long q3), .second, .val (.int (p4 &&& (3 : Int32))), .val (.ref b27), .val (.ref b27), .val (.long q2), .second] [(.int (1 : Int32))])) t
        refine XS.goto X36.here hx rfl (pc0 := 114) (pc' := 118) rfl (hb hby at_114) (by decide) (by decide) ?_
        exact k
      refine WP.st bk37 ?_
      clear bk37
      subst hG
      obtain ⟨fs, hr, hrun, hended, hW, hsame⟩ := X36.leave (v := some (.int (1 : Int32))) (fun h => by rw [Bd.returns] at h; cases h)
      refine WP.fin ⟨_, _, ?_, hrun, hended, _, _, rfl, ?_, ⟨_, rfl⟩, hW, hsame.mono (by decide) (by decide)⟩
      · exact retN X36 hx (t := .boolean) Bd.returns (by simp) (hb hby at_118) hr
      · show Q0 Z q1 q2 q3 p4 h0 n0 _ T36.heap _
        rw [Kq36]
        exact ⟨rfl, NF⟩
    · skip
      obtain ⟨cq38, kq38, q38a, q38b, q38c⟩ := isOf hZ e29 E_b27
      obtain ⟨_, _, ⟨T38, L38, k38, n38⟩, -, X38, ⟨Lc38, hQ38, l38, y38, z38⟩, st38⟩ := X29.virtualBack hx (y := (⟨"com/example/deodar/deodar/workingcopy/FileState", "toRecord", "(J)Lcom/example/deodar/deodar/workingcopy/FileState;"⟩ : MethodName)) (z := (⟨"com/example/deodar/deodar/workingcopy/FileState", "toRecord", "(J)Lcom/example/deodar/deodar/workingcopy/FileState;"⟩ : MethodName)) hown (mvT hZ (hw _ (List.mem_of_getElem? (i := 18) rfl))) (mvT hZ (hw _ (List.mem_of_getElem? (i := 19) rfl))) (notFace_of_selects (args := #[]) (mvT hZ (hw _ (List.mem_of_getElem? (i := 21) rfl)))) (mvT hZ (hw _ (List.mem_of_getElem? (i := 21) rfl))) (mvT hZ (hw _ (List.mem_of_getElem? (i := 20) rfl))) (by decide) (backOf (W := 0) (rm4n l Z a0 hw [] b27 q3 q1 q2 h29 n0 Z0 F_b27_size F_b27_modified hc31) hZ (hw _ (List.mem_of_getElem? (i := 22) rfl)) (hw _ (List.mem_of_getElem? (i := 2) rfl)) (by decide) (by decide)) q38a q38c (g := (mkF m 64 #[.val (.long q1), .second, .val (.long q2), .second, .val (.long q3), .second, .val (.int p4), .val (.long q3), .second, .val (.int (p4 &&& (3 : Int32))), .val (.ref b27), .unset, .unset, .unset] [(.long q3), (.ref b27)])) rfl (by rw [hml]; rfl) (Steps.refl _) (argsL := [(.long q3)]) (rest := []) (lenOf pd_2 rfl) rfl (by show 2 * 0 + _ ≤ _; exact Nat.le_of_eq rfl) (hb hby at_64) (fun _ _ => ⟨rfl, e29, (by decide : 1 + 1 ≤ _), (by decide : 2 + 2 ≤ _)⟩)
      dsimp only [Pt.U, Pt.locs, Pt.cells, Pt.slots] at X38 l38 y38 z38 st38 hQ38
      subst l38 y38 z38
      obtain ⟨r_38, rfl, Nq38, Kq38, szq_r_38, nE38_r_38, nF38_r_38_size, nF38_r_38_modified⟩ := hQ38
      replace NF := Fr.app NF Nq38
      clear Nq38
      refine WP.tr st38 ?_
      clear st38
      obtain ⟨h38, e38⟩ : ∃ h, T38.heap = h := ⟨_, rfl⟩
      rw [e38] at Kq38 nE38_r_38 nF38_r_38_size nF38_r_38_modified
      have ne_b27_r_38 : b27 ≠ r_38 := Nat.ne_of_lt (Nat.lt_of_lt_of_le E_b27.lt szq_r_38)
      replace E_b27 := E_b27.keep Kq38
      replace F_b27_size := F_b27_size.keep Kq38 (by exact nin0)
      replace F_b27_modified := F_b27_modified.keep Kq38 (by exact nin0)
      replace Z0 := Nat.le_trans Z0 Kq38.1
      clear Kq38
      have E_r_38 := nE38_r_38
      clear nE38_r_38
      have F_r_38_size := nF38_r_38_size
      clear nF38_r_38_size
      have F_r_38_modified := nF38_r_38_modified
      clear nF38_r_38_modified
      show WP p.tables e below _ T38 (mkF m 67 #[.val (.long q1), .second, .val (.long q2), .second, .val (.long q3), .second, .val (.int p4), .val (.long q3), .second, .val (.int (p4 &&& (3 : Int32))), .val (.ref b27), .unset, .unset, .unset] [(.ref r_38)])
      have bk39 : ∀ t, Steps p.tables e below (T38.setTop (mkF m 94 #[.val (.long q1), .second, .val (.long q2), .second, .val (.long q3), .second, .val (.int p4), .val (.long q3), .second, .val (.int (p4 &&& (3 : Int32))), .val (.ref b27), .val (.ref r_38), .val (.long (-9223372036854775808 : Int64)), .second] [(.ref r_38)])) t → Steps p.tables e below (T38.setTop (mkF m 67 #[.val (.long q1), .second, .val (.long q2), .second, .val (.long q3), .second, .val (.int p4), .val (.long q3), .second, .val (.int (p4 &&& (3 : Int32))), .val (.ref b27), .unset, .unset, .unset] [(.ref r_38)])) t := fun t k => by
        refine XS.astore X38.here hx rfl (hb hby at_67) rfl rfl (l' := #[.val (.long q1), .second, .val (.long q2), .second, .val (.long q3), .second, .val (.int p4), .val (.long q3), .second, .val (.int (p4 &&& (3 : Int32))), .val (.ref b27), .val (.ref r_38), .unset, .unset]) rfl ?_
        show Steps p.tables e below (T38.setTop (mkF m 69 #[.val (.long q1), .second, .val (.long q2), .second, .val (.long q3), .second, .val (.int p4), .val (.long q3), .second, .val (.int (p4 &&& (3 : Int32))), .val (.ref b27), .val (.ref r_38), .unset, .unset] [])) t
        refine XS.aload X38.here hx rfl (hb hby at_69) rfl rfl ?_
        show Steps p.tables e below (T38.setTop (mkF m 71 #[.val (.long q1), .second, .val (.long q2), .second, .val (.long q3), .second, .val (.int p4), .val (.long q3), .second, .val (.int (p4 &&& (3 : Int32))), .val (.ref b27), .val (.ref r_38), .unset, .unset] [(.ref r_38)])) t
        refine XS.ifnonnullYes X38.here hx rfl (pc0 := 71) (pc' := 76) rfl (hb hby at_71) rfl (by decide) (by decide) ?_
        show Steps p.tables e below (T38.setTop (mkF m 76 #[.val (.long q1), .second, .val (.long q2), .second, .val (.long q3), .second, .val (.int p4), .val (.long q3), .second, .val (.int (p4 &&& (3 : Int32))), .val (.ref b27), .val (.ref r_38), .unset, .unset] [])) t
        refine XS.lloadN X38.here hx rfl (hb hby at_76) rfl ?_
        show Steps p.tables e below (T38.setTop (mkF m 77 #[.val (.long q1), .second, .val (.long q2), .second, .val (.long q3), .second, .val (.int p4), .val (.long q3), .second, .val (.int (p4 &&& (3 : Int32))), .val (.ref b27), .val (.ref r_38), .unset, .unset] [(.long q2)])) t
        refine XS.lload X38.here hx rfl (hb hby at_77) rfl ?_
        show Steps p.tables e below (T38.setTop (mkF m 79 #[.val (.long q1), .second, .val (.long q2), .second, .val (.long q3), .second, .val (.int p4), .val (.long q3), .second, .val (.int (p4 &&& (3 : Int32))), .val (.ref b27), .val (.ref r_38), .unset, .unset] [(.long q3), (.long q2)])) t
        refine XS.lcmp X38.here hx rfl (hb hby at_79) rfl ?_
        show Steps p.tables e below (T38.setTop (mkF m 80 #[.val (.long q1), .second, .val (.long q2), .second, .val (.long q3), .second, .val (.int p4), .val (.long q3), .second, .val (.int (p4 &&& (3 : Int32))), .val (.ref b27), .val (.ref r_38), .unset, .unset] [(.int (lcmpW q2 q3))])) t
        refine XS.ifYes X38.here hx rfl (pc0 := 80) (pc' := 87) rfl (hb hby at_80) rfl ((if0 _ _).trans (flt hc31).2.1) (by decide) (by decide) ?_
        show Steps p.tables e below (T38.setTop (mkF m 87 #[.val (.long q1), .second, .val (.long q2), .second, .val (.long q3), .second, .val (.int p4), .val (.long q3), .second, .val (.int (p4 &&& (3 : Int32))), .val (.ref b27), .val (.ref r_38), .unset, .unset] [])) t
        refine X38.ldc2Long hx hown (mvT hZ (hw _ (List.mem_of_getElem? (i := 36) rfl))) (g := (mkF m 87 #[.val (.long q1), .second, .val (.long q2), .second, .val (.long q3), .second, .val (.int p4), .val (.long q3), .second, .val (.int (p4 &&& (3 : Int32))), .val (.ref b27), .val (.ref r_38), .unset, .unset] [])) rfl (hb hby at_87) _ ?_
        show Steps p.tables e below (T38.setTop (mkF m 90 #[.val (.long q1), .second, .val (.long q2), .second, .val (.long q3), .second, .val (.int p4), .val (.long q3), .second, .val (.int (p4 &&& (3 : Int32))), .val (.ref b27), .val (.ref r_38), .unset, .unset] [(.long (-9223372036854775808 : Int64))])) t
        refine XS.lstore X38.here hx rfl (hb hby at_90) rfl (l' := #[.val (.long q1), .second, .val (.long q2), .second, .val (.long q3), .second, .val (.int p4), .val (.long q3), .second, .val (.int (p4 &&& (3 : Int32))), .val (.ref b27), .val (.ref r_38), .val (.long (-9223372036854775808 : Int64)), .second]) rfl ?_
        show Steps p.tables e below (T38.setTop (mkF m 92 #[.val (.long q1), .second, .val (.long q2), .second, .val (.long q3), .second, .val (.int p4), .val (.long q3), .second, .val (.int (p4 &&& (3 : Int32))), .val (.ref b27), .val (.ref r_38), .val (.long (-9223372036854775808 : Int64)), .second] [])) t
        refine XS.aload X38.here hx rfl (hb hby at_92) rfl rfl ?_
        exact k
      refine WP.st bk39 ?_
      clear bk39
      obtain ⟨cq40, kq40, q40a, q40b, q40c⟩ := isOf hZ e38 E_r_38
      obtain ⟨_, _, ⟨T40, L40, k40, n40⟩, -, X40, ⟨Lc40, hQ40, l40, y40, z40⟩, st40⟩ := X38.virtualBack hx (y := (⟨"com/example/deodar/deodar/workingcopy/FileState", "size", "()J"⟩ : MethodName)) (z := (⟨"com/example/deodar/deodar/workingcopy/FileState", "size", "()J"⟩ : MethodName)) hown (mvT hZ (hw _ (List.mem_of_getElem? (i := 23) rfl))) (mvT hZ (hw _ (List.mem_of_getElem? (i := 24) rfl))) (notFace_of_selects (args := #[]) (mvT hZ (hw _ (List.mem_of_getElem? (i := 26) rfl)))) (mvT hZ (hw _ (List.mem_of_getElem? (i := 26) rfl))) (mvT hZ (hw _ (List.mem_of_getElem? (i := 25) rfl))) (by decide) (backOf (W := 0) (rm5 l Z a0 hw [] r_38 q1 h38 n0 Z0 F_r_38_size) hZ (hw _ (List.mem_of_getElem? (i := 27) rfl)) (hw _ (List.mem_of_getElem? (i := 2) rfl)) (by decide) (by decide)) q40a q40c (g := (mkF m 94 #[.val (.long q1), .second, .val (.long q2), .second, .val (.long q3), .second, .val (.int p4), .val (.long q3), .second, .val (.int (p4 &&& (3 : Int32))), .val (.ref b27), .val (.ref r_38), .val (.long (-9223372036854775808 : Int64)), .second] [(.ref r_38)])) rfl (by rw [hml]; rfl) (Steps.refl _) (argsL := []) (rest := []) (lenOf pd_3 rfl) rfl (by show 2 * 0 + _ ≤ _; exact Nat.le_of_eq rfl) (hb hby at_94) (fun _ _ => ⟨rfl, e38, (by decide : 2 + 0 ≤ _), (by decide : 4 + 0 ≤ _)⟩)
      dsimp only [Pt.U, Pt.locs, Pt.cells, Pt.slots] at X40 l40 y40 z40 st40 hQ40
      subst l40 y40 z40
      obtain ⟨rfl, Nq40, Kq40⟩ := hQ40
      replace NF := Fr.app NF Nq40
      clear Nq40
      refine WP.tr st40 ?_
      clear st40
      replace Kq40 := Kq40.trans (rfl : h38 = h38)
      show WP p.tables e below _ T40 (mkF m 97 #[.val (.long q1), .second, .val (.long q2), .second, .val (.long q3), .second, .val (.int p4), .val (.long q3), .second, .val (.int (p4 &&& (3 : Int32))), .val (.ref b27), .val (.ref r_38), .val (.long (-9223372036854775808 : Int64)), .second] [(.long q1)])
      have bk41 : ∀ t, Steps p.tables e below (T40.setTop (mkF m 104 #[.val (.long q1), .second, .val (.long q2), .second, .val (.long q3), .second, .val (.int p4), .val (.long q3), .second, .val (.int (p4 &&& (3 : Int32))), .val (.ref b27), .val (.ref r_38), .val (.long (-9223372036854775808 : Int64)), .second] [(.ref r_38)])) t → Steps p.tables e below (T40.setTop (mkF m 97 #[.val (.long q1), .second, .val (.long q2), .second, .val (.long q3), .second, .val (.int p4), .val (.long q3), .second, .val (.int (p4 &&& (3 : Int32))), .val (.ref b27), .val (.ref r_38), .val (.long (-9223372036854775808 : Int64)), .second] [(.long q1)])) t := fun t k => by
        refine XS.lloadN X40.here hx rfl (hb hby at_97) rfl ?_
        show Steps p.tables e below (T40.setTop (mkF m 98 #[.val (.long q1), .second, .val (.long q2), .second, .val (.long q3), .second, .val (.int p4), .val (.long q3), .second, .val (.int (p4 &&& (3 : Int32))), .val (.ref b27), .val (.ref r_38), .val (.long (-9223372036854775808 : Int64)), .second] [(.long q1), (.long q1)])) t
        refine XS.lcmp X40.here hx rfl (hb hby at_98) rfl ?_
        show Steps p.tables e below (T40.setTop (mkF m 99 #[.val (.long q1), .second, .val (.long q2), .second, .val (.long q3), .second, .val (.int p4), .val (.long q3), .second, .val (.int (p4 &&& (3 : Int32))), .val (.ref b27), .val (.ref r_38), .val (.long (-9223372036854775808 : Int64)), .second] [(.int (lcmpW q1 q1))])) t
        refine XS.ifNo X40.here hx rfl (hb hby at_99) rfl ((if0 _ _).trans (teq ((lw_eq _ _).2 rfl)).2) ?_
        show Steps p.tables e below (T40.setTop (mkF m 102 #[.val (.long q1), .second, .val (.long q2), .second, .val (.long q3), .second, .val (.int p4), .val (.long q3), .second, .val (.int (p4 &&& (3 : Int32))), .val (.ref b27), .val (.ref r_38), .val (.long (-9223372036854775808 : Int64)), .second] [])) t
        refine XS.aload X40.here hx rfl (hb hby at_102) rfl rfl ?_
        exact k
      refine WP.st bk41 ?_
      clear bk41
      obtain ⟨cq42, kq42, q42a, q42b, q42c⟩ := isOf hZ Kq40 E_r_38
      obtain ⟨_, _, ⟨T42, L42, k42, n42⟩, -, X42, ⟨Lc42, hQ42, l42, y42, z42⟩, st42⟩ := X40.virtualBack hx (y := (⟨"com/example/deodar/deodar/workingcopy/FileState", "modified", "()J"⟩ : MethodName)) (z := (⟨"com/example/deodar/deodar/workingcopy/FileState", "modified", "()J"⟩ : MethodName)) hown (mvT hZ (hw _ (List.mem_of_getElem? (i := 28) rfl))) (mvT hZ (hw _ (List.mem_of_getElem? (i := 29) rfl))) (notFace_of_selects (args := #[]) (mvT hZ (hw _ (List.mem_of_getElem? (i := 31) rfl)))) (mvT hZ (hw _ (List.mem_of_getElem? (i := 31) rfl))) (mvT hZ (hw _ (List.mem_of_getElem? (i := 30) rfl))) (by decide) (backOf (W := 0) (rm6 l Z a0 hw [] r_38 (-9223372036854775808 : Int64) h38 n0 Z0 F_r_38_modified) hZ (hw _ (List.mem_of_getElem? (i := 32) rfl)) (hw _ (List.mem_of_getElem? (i := 2) rfl)) (by decide) (by decide)) q42a q42c (g := (mkF m 104 #[.val (.long q1), .second, .val (.long q2), .second, .val (.long q3), .second, .val (.int p4), .val (.long q3), .second, .val (.int (p4 &&& (3 : Int32))), .val (.ref b27), .val (.ref r_38), .val (.long (-9223372036854775808 : Int64)), .second] [(.ref r_38)])) rfl (by rw [hml]; rfl) (Steps.refl _) (argsL := []) (rest := []) (lenOf pd_3 rfl) rfl (by show 2 * 0 + _ ≤ _; exact Nat.le_of_eq rfl) (hb hby at_104) (fun _ _ => ⟨rfl, Kq40, (by decide : 2 + 0 ≤ _), (by decide : 4 + 0 ≤ _)⟩)
      dsimp only [Pt.U, Pt.locs, Pt.cells, Pt.slots] at X42 l42 y42 z42 st42 hQ42
      subst l42 y42 z42
      obtain ⟨rfl, Nq42, Kq42⟩ := hQ42
      replace NF := Fr.app NF Nq42
      clear Nq42
      refine WP.tr st42 ?_
      clear st42
      replace Kq42 := Kq42.trans (rfl : h38 = h38)
      show WP p.tables e below _ T42 (mkF m 107 #[.val (.long q1), .second, .val (.long q2), .second, .val (.long q3), .second, .val (.int p4), .val (.long q3), .second, .val (.int (p4 &&& (3 : Int32))), .val (.ref b27), .val (.ref r_38), .val (.long (-9223372036854775808 : Int64)), .second] [(.long (-9223372036854775808 : Int64))])
      have bk43 : ∀ t, Steps p.tables e below (T42.setTop (mkF m 118 #[.val (.long q1), .second, .val (.long q2), .second, .val (.long q3), .second, .val (.int p4), .val (.long q3), .second, .val (.int (p4 &&& (3 : Int32))), .val (.ref b27), .val (.ref r_38), .val (.long (-9223372036854775808 : Int64)), .second] [(.int (1 : Int32))])) t → Steps p.tables e below (T42.setTop (mkF m 107 #[.val (.long q1), .second, .val (.long q2), .second, .val (.long q3), .second, .val (.int p4), .val (.long q3), .second, .val (.int (p4 &&& (3 : Int32))), .val (.ref b27), .val (.ref r_38), .val (.long (-9223372036854775808 : Int64)), .second] [(.long (-9223372036854775808 : Int64))])) t := fun t k => by
        refine XS.lload X42.here hx rfl (hb hby at_107) rfl ?_
        show Steps p.tables e below (T42.setTop (mkF m 109 #[.val (.long q1), .second, .val (.long q2), .second, .val (.long q3), .second, .val (.int p4), .val (.long q3), .second, .val (.int (p4 &&& (3 : Int32))), .val (.ref b27), .val (.ref r_38), .val (.long (-9223372036854775808 : Int64)), .second] [(.long (-9223372036854775808 : Int64)), (.long (-9223372036854775808 : Int64))])) t
        refine XS.lcmp X42.here hx rfl (hb hby at_109) rfl ?_
        show Steps p.tables e below (T42.setTop (mkF m 110 #[.val (.long q1), .second, .val (.long q2), .second, .val (.long q3), .second, .val (.int p4), .val (.long q3), .second, .val (.int (p4 &&& (3 : Int32))), .val (.ref b27), .val (.ref r_38), .val (.long (-9223372036854775808 : Int64)), .second] [(.int (lcmpW (-9223372036854775808 : Int64) (-9223372036854775808 : Int64)))])) t
        refine XS.ifNo X42.here hx rfl (hb hby at_110) rfl ((if0 _ _).trans (teq ((lw_eq _ _).2 rfl)).2) ?_
        show Steps p.tables e below (T42.setTop (mkF m 113 #[.val (.long q1), .second, .val (.long q2), .second, .val (.long q3), .second, .val (.int p4), .val (.long q3), .second, .val (.int (p4 &&& (3 : Int32))), .val (.ref b27), .val (.ref r_38), .val (.long (-9223372036854775808 : Int64)), .second] [])) t
        refine XS.iconst X42.here hx rfl (hb hby at_113) ?_
        show Steps p.tables e below (T42.setTop (mkF m 114 #[.val (.long q1), .second, .val (.long q2), .second, .val (.long q3), .second, .val (.int p4), .val (.long q3), .second, .val (.int (p4 &&& (3 : Int32))), .val (.ref b27), .val (.ref r_38), .val (.long (-9223372036854775808 : Int64)), .second] [(.int (1 : Int32))])) t
        refine XS.goto X42.here hx rfl (pc0 := 114) (pc' := 118) rfl (hb hby at_114) (by decide) (by decide) ?_
        exact k
      refine WP.st bk43 ?_
      clear bk43
      subst hG
      obtain ⟨fs, hr, hrun, hended, hW, hsame⟩ := X42.leave (v := some (.int (1 : Int32))) (fun h => by rw [Bd.returns] at h; cases h)
      refine WP.fin ⟨_, _, ?_, hrun, hended, _, _, rfl, ?_, ⟨_, rfl⟩, hW, hsame.mono (by decide) (by decide)⟩
      · exact retN X42 hx (t := .boolean) Bd.returns (by simp) (hb hby at_118) hr
      · show Q0 Z q1 q2 q3 p4 h0 n0 _ T42.heap _
        rw [Kq42]
        exact ⟨rfl, NF⟩
  · skip
    have bk45 : ∀ t, Steps p.tables e below (s₁.setTop (mkF m 21 #[.val (.long q1), .second, .val (.long q2), .second, .val (.long q3), .second, .val (.int p4), .unset, .unset, .val (.int (p4 &&& (3 : Int32))), .unset, .unset, .unset, .unset] [(.int (1 : Int32)), (.int (p4 &&& (3 : Int32)))])) t → Steps p.tables e below (s₁.setTop (mkF m 8 #[.val (.long q1), .second, .val (.long q2), .second, .val (.long q3), .second, .val (.int p4), .unset, .unset, .val (.int (p4 &&& (3 : Int32))), .unset, .unset, .unset, .unset] [(.int (p4 &&& (3 : Int32)))])) t := fun t k => by
      refine XS.ifYes X0.here hx rfl (pc0 := 8) (pc' := 18) rfl (hb hby at_8) rfl ((if0 _ _).trans (feq hc24).2) (by decide) (by decide) ?_
      show Steps p.tables e below (s₁.setTop (mkF m 18 #[.val (.long q1), .second, .val (.long q2), .second, .val (.long q3), .second, .val (.int p4), .unset, .unset, .val (.int (p4 &&& (3 : Int32))), .unset, .unset, .unset, .unset] [])) t
      refine XS.iload X0.here hx rfl (hb hby at_18) rfl ?_
      show Steps p.tables e below (s₁.setTop (mkF m 20 #[.val (.long q1), .second, .val (.long q2), .second, .val (.long q3), .second, .val (.int p4), .unset, .unset, .val (.int (p4 &&& (3 : Int32))), .unset, .unset, .unset, .unset] [(.int (p4 &&& (3 : Int32)))])) t
      refine XS.iconst X0.here hx rfl (hb hby at_20) ?_
      exact k
    refine WP.st bk45 ?_
    clear bk45
    by_cases hc44 : (p4 &&& (3 : Int32)) = (1 : Int32)
    · skip
      have bk46 : ∀ t, Steps p.tables e below (s₁.setTop (mkF m 49 #[.val (.long q1), .second, .val (.long q2), .second, .val (.long q3), .second, .val (.int p4), .val (.long q2), .second, .val (.int (p4 &&& (3 : Int32))), .unset, .unset, .unset, .unset] [])) t → Steps p.tables e below (s₁.setTop (mkF m 21 #[.val (.long q1), .second, .val (.long q2), .second, .val (.long q3), .second, .val (.int p4), .unset, .unset, .val (.int (p4 &&& (3 : Int32))), .unset, .unset, .unset, .unset] [(.int (1 : Int32)), (.int (p4 &&& (3 : Int32)))])) t := fun t k => by
        refine XS.icmpNo X0.here hx rfl (hb hby at_21) rfl (teq hc44).2 ?_
        show Steps p.tables e below (s₁.setTop (mkF m 24 #[.val (.long q1), .second, .val (.long q2), .second, .val (.long q3), .second, .val (.int p4), .unset, .unset, .val (.int (p4 &&& (3 : Int32))), .unset, .unset, .unset, .unset] [])) t
        refine XS.lloadN X0.here hx rfl (hb hby at_24) rfl ?_
        show Steps p.tables e below (s₁.setTop (mkF m 25 #[.val (.long q1), .second, .val (.long q2), .second, .val (.long q3), .second, .val (.int p4), .unset, .unset, .val (.int (p4 &&& (3 : Int32))), .unset, .unset, .unset, .unset] [(.long q2)])) t
        refine XS.lstore X0.here hx rfl (hb hby at_25) rfl (l' := #[.val (.long q1), .second, .val (.long q2), .second, .val (.long q3), .second, .val (.int p4), .val (.long q2), .second, .val (.int (p4 &&& (3 : Int32))), .unset, .unset, .unset, .unset]) rfl ?_
        show Steps p.tables e below (s₁.setTop (mkF m 27 #[.val (.long q1), .second, .val (.long q2), .second, .val (.long q3), .second, .val (.int p4), .val (.long q2), .second, .val (.int (p4 &&& (3 : Int32))), .unset, .unset, .unset, .unset] [])) t
        refine XS.goto X0.here hx rfl (pc0 := 27) (pc' := 49) rfl (hb hby at_27) (by decide) (by decide) ?_
        exact k
      refine WP.st bk46 ?_
      clear bk46
      obtain ⟨T47, h47, X47, e47, E47, A47, D47, -, st47⟩ := newO X0 hx hZ hown (hw _ (List.mem_of_getElem? (i := 0) rfl)) (hw _ (List.mem_of_getElem? (i := 1) rfl)) (hw _ (List.mem_of_getElem? (i := 2) rfl)) e0 (g := (mkF m 49 #[.val (.long q1), .second, .val (.long q2), .second, .val (.long q3), .second, .val (.int p4), .val (.long q2), .second, .val (.int (p4 &&& (3 : Int32))), .unset, .unset, .unset, .unset] [])) rfl (hb hby at_49) (by decide) (by decide)
      obtain ⟨b47, g47⟩ : ∃ z, z = h0.size := ⟨_, rfl⟩
      rw [← g47] at A47 D47 st47
      refine WP.st st47 ?_
      clear st47
      have g_b47 : n0 ≤ b47 := Nat.le_trans Z0 (Nat.le_of_eq g47.symm)
      replace Z0 := Nat.le_trans Z0 E47.1
      have E_b47 := A47
      have F_b47_size : Fld Z h47 b47 "com/example/deodar/deodar/workingcopy/FileState" "size" "J" (.long (0 : Int64)) := D47 (Or.inr (hw _ (List.mem_of_getElem? (i := 15) rfl))) (ty := .long) (by decide)
      have F_b47_modified : Fld Z h47 b47 "com/example/deodar/deodar/workingcopy/FileState" "modified" "J" (.long (0 : Int64)) := D47 (Or.inr (hw _ (List.mem_of_getElem? (i := 17) rfl))) (ty := .long) (by decide)
      clear D47 A47
      show WP p.tables e below _ T47 (mkF m 52 #[.val (.long q1), .second, .val (.long q2), .second, .val (.long q3), .second, .val (.int p4), .val (.long q2), .second, .val (.int (p4 &&& (3 : Int32))), .unset, .unset, .unset, .unset] [(.ref b47)])
      have bk48 : ∀ t, Steps p.tables e below (T47.setTop (mkF m 55 #[.val (.long q1), .second, .val (.long q2), .second, .val (.long q3), .second, .val (.int p4), .val (.long q2), .second, .val (.int (p4 &&& (3 : Int32))), .unset, .unset, .unset, .unset] [(.long q2), (.long q1), (.ref b47), (.ref b47)])) t → Steps p.tables e below (T47.setTop (mkF m 52 #[.val (.long q1), .second, .val (.long q2), .second, .val (.long q3), .second, .val (.int p4), .val (.long q2), .second, .val (.int (p4 &&& (3 : Int32))), .unset, .unset, .unset, .unset] [(.ref b47)])) t := fun t k => by
        refine XS.dup X47.here hx rfl (hb hby at_52) rfl rfl ?_
        show Steps p.tables e below (T47.setTop (mkF m 53 #[.val (.long q1), .second, .val (.long q2), .second, .val (.long q3), .second, .val (.int p4), .val (.long q2), .second, .val (.int (p4 &&& (3 : Int32))), .unset, .unset, .unset, .unset] [(.ref b47), (.ref b47)])) t
        refine XS.lloadN X47.here hx rfl (hb hby at_53) rfl ?_
        show Steps p.tables e below (T47.setTop (mkF m 54 #[.val (.long q1), .second, .val (.long q2), .second, .val (.long q3), .second, .val (.int p4), .val (.long q2), .second, .val (.int (p4 &&& (3 : Int32))), .unset, .unset, .unset, .unset] [(.long q1), (.ref b47), (.ref b47)])) t
        refine XS.lloadN X47.here hx rfl (hb hby at_54) rfl ?_
        exact k
      refine WP.st bk48 ?_
      clear bk48
      obtain ⟨_, _, ⟨T49, L49, k49, n49⟩, -, X49, ⟨Lc49, hQ49, l49, y49, z49⟩, st49⟩ := X47.specialBack hx (y := (⟨"com/example/deodar/deodar/workingcopy/FileState", "<init>", "(JJ)V"⟩ : MethodName)) rfl hown (mvT hZ (hw _ (List.mem_of_getElem? (i := 3) rfl))) (mvT hZ (hw _ (List.mem_of_getElem? (i := 4) rfl))) (mvT hZ (hw _ (List.mem_of_getElem? (i := 5) rfl))) (by decide) (backOf (W := 1) (rm1 l Z a0 hw [] b47 q1 q2 (0 : Int64) (0 : Int64) h47 n0 Z0 E_b47 g_b47 F_b47_size F_b47_modified) hZ (hw _ (List.mem_of_getElem? (i := 5) rfl)) (hw _ (List.mem_of_getElem? (i := 2) rfl)) (by decide) (by decide)) (g := (mkF m 55 #[.val (.long q1), .second, .val (.long q2), .second, .val (.long q3), .second, .val (.int p4), .val (.long q2), .second, .val (.int (p4 &&& (3 : Int32))), .unset, .unset, .unset, .unset] [(.long q2), (.long q1), (.ref b47), (.ref b47)])) rfl (by rw [hml]; rfl) (Steps.refl _) (a := b47) (argsL := [(.long q1), (.long q2)]) (rest := [(.ref b47)]) (lenOf pd_1 rfl) rfl (by show 2 * 0 + _ ≤ _; exact Nat.le_of_eq rfl) (hb hby at_55) (fun _ _ => ⟨rfl, e47, (by decide : 1 + 0 ≤ _), (by decide : 2 + 0 ≤ _)⟩)
      dsimp only [Pt.U, Pt.locs, Pt.cells, Pt.slots] at X49 l49 y49 z49 st49 hQ49
      subst l49 y49 z49
      obtain ⟨rfl, Nq49, Kq49, nF49_b47_size, nF49_b47_modified⟩ := hQ49
      replace NF := Fr.app NF Nq49
      clear Nq49
      refine WP.tr st49 ?_
      clear st49
      obtain ⟨h49, e49⟩ : ∃ h, T49.heap = h := ⟨_, rfl⟩
      rw [e49] at Kq49 nF49_b47_size nF49_b47_modified
      replace E_b47 := E_b47.keep Kq49
      clear F_b47_size
      clear F_b47_modified
      replace Z0 := Nat.le_trans Z0 Kq49.1
      clear Kq49
      have F_b47_size := nF49_b47_size
      clear nF49_b47_size
      have F_b47_modified := nF49_b47_modified
      clear nF49_b47_modified
      show WP p.tables e below _ T49 (mkF m 58 #[.val (.long q1), .second, .val (.long q2), .second, .val (.long q3), .second, .val (.int p4), .val (.long q2), .second, .val (.int (p4 &&& (3 : Int32))), .unset, .unset, .unset, .unset] [(.ref b47)])
      have bk50 : ∀ t, Steps p.tables e below (T49.setTop (mkF m 64 #[.val (.long q1), .second, .val (.long q2), .second, .val (.long q3), .second, .val (.int p4), .val (.long q2), .second, .val (.int (p4 &&& (3 : Int32))), .val (.ref b47), .unset, .unset, .unset] [(.long q2), (.ref b47)])) t → Steps p.tables e below (T49.setTop (mkF m 58 #[.val (.long q1), .second, .val (.long q2), .second, .val (.long q3), .second, .val (.int p4), .val (.long q2), .second, .val (.int (p4 &&& (3 : Int32))), .unset, .unset, .unset, .unset] [(.ref b47)])) t := fun t k => by
        refine XS.astore X49.here hx rfl (hb hby at_58) rfl rfl (l' := #[.val (.long q1), .second, .val (.long q2), .second, .val (.long q3), .second, .val (.int p4), .val (.long q2), .second, .val (.int (p4 &&& (3 : Int32))), .val (.ref b47), .unset, .unset, .unset]) rfl ?_
        show Steps p.tables e below (T49.setTop (mkF m 60 #[.val (.long q1), .second, .val (.long q2), .second, .val (.long q3), .second, .val (.int p4), .val (.long q2), .second, .val (.int (p4 &&& (3 : Int32))), .val (.ref b47), .unset, .unset, .unset] [])) t
        refine XS.aload X49.here hx rfl (hb hby at_60) rfl rfl ?_
        show Steps p.tables e below (T49.setTop (mkF m 62 #[.val (.long q1), .second, .val (.long q2), .second, .val (.long q3), .second, .val (.int p4), .val (.long q2), .second, .val (.int (p4 &&& (3 : Int32))), .val (.ref b47), .unset, .unset, .unset] [(.ref b47)])) t
        refine XS.lload X49.here hx rfl (hb hby at_62) rfl ?_
        exact k
      refine WP.st bk50 ?_
      clear bk50
      by_cases hc51 : (lcmpW q2 q2) < (0 : Int32)
      · skip
        obtain ⟨cq52, kq52, q52a, q52b, q52c⟩ := isOf hZ e49 E_b47
        obtain ⟨_, _, ⟨T52, L52, k52, n52⟩, -, X52, ⟨Lc52, hQ52, l52, y52, z52⟩, st52⟩ := X49.virtualBack hx (y := (⟨"com/example/deodar/deodar/workingcopy/FileState", "toRecord", "(J)Lcom/example/deodar/deodar/workingcopy/FileState;"⟩ : MethodName)) (z := (⟨"com/example/deodar/deodar/workingcopy/FileState", "toRecord", "(J)Lcom/example/deodar/deodar/workingcopy/FileState;"⟩ : MethodName)) hown (mvT hZ (hw _ (List.mem_of_getElem? (i := 18) rfl))) (mvT hZ (hw _ (List.mem_of_getElem? (i := 19) rfl))) (notFace_of_selects (args := #[]) (mvT hZ (hw _ (List.mem_of_getElem? (i := 21) rfl)))) (mvT hZ (hw _ (List.mem_of_getElem? (i := 21) rfl))) (mvT hZ (hw _ (List.mem_of_getElem? (i := 20) rfl))) (by decide) (backOf (W := 0) (rm4y l Z a0 hw [] b47 q2 q1 q2 h49 n0 Z0 F_b47_size F_b47_modified hc51) hZ (hw _ (List.mem_of_getElem? (i := 22) rfl)) (hw _ (List.mem_of_getElem? (i := 2) rfl)) (by decide) (by decide)) q52a q52c (g := (mkF m 64 #[.val (.long q1), .second, .val (.long q2), .second, .val (.long q3), .second, .val (.int p4), .val (.long q2), .second, .val (.int (p4 &&& (3 : Int32))), .val (.ref b47), .unset, .unset, .unset] [(.long q2), (.ref b47)])) rfl (by rw [hml]; rfl) (Steps.refl _) (argsL := [(.long q2)]) (rest := []) (lenOf pd_2 rfl) rfl (by show 2 * 0 + _ ≤ _; exact Nat.le_of_eq rfl) (hb hby at_64) (fun _ _ => ⟨rfl, e49, (by decide : 1 + 0 ≤ _), (by decide : 2 + 0 ≤ _)⟩)
        dsimp only [Pt.U, Pt.locs, Pt.cells, Pt.slots] at X52 l52 y52 z52 st52 hQ52
        subst l52 y52 z52
        obtain ⟨rfl, Nq52, Kq52⟩ := hQ52
        replace NF := Fr.app NF Nq52
        clear Nq52
        refine WP.tr st52 ?_
        clear st52
        replace Kq52 := Kq52.trans (rfl : h49 = h49)
        show WP p.tables e below _ T52 (mkF m 67 #[.val (.long q1), .second, .val (.long q2), .second, .val (.long q3), .second, .val (.int p4), .val (.long q2), .second, .val (.int (p4 &&& (3 : Int32))), .val (.ref b47), .unset, .unset, .unset] [(.ref b47)])
        have bk53 : ∀ t, Steps p.tables e below (T52.setTop (mkF m 94 #[.val (.long q1), .second, .val (.long q2), .second, .val (.long q3), .second, .val (.int p4), .val (.long q2), .second, .val (.int (p4 &&& (3 : Int32))), .val (.ref b47), .val (.ref b47), .val (.long q2), .second] [(.ref b47)])) t → Steps p.tables e below (T52.setTop (mkF m 67 #[.val (.long q1), .second, .val (.long q2), .second, .val (.long q3), .second, .val (.int p4), .val (.long q2), .second, .val (.int (p4 &&& (3 : Int32))), .val (.ref b47), .unset, .unset, .unset] [(.ref b47)])) t := fun t k => by
          refine XS.astore X52.here hx rfl (hb hby at_67) rfl rfl (l' := #[.val (.long q1), .second, .val (.long q2), .second, .val (.long q3), .second, .val (.int p4), .val (.long q2), .second, .val (.int (p4 &&& (3 : Int32))), .val (.ref b47), .val (.ref b47), .unset, .unset]) rfl ?_
          show Steps p.tables e below (T52.setTop (mkF m 69 #[.val (.long q1), .second, .val (.long q2), .second, .val (.long q3), .second, .val (.int p4), .val (.long q2), .second, .val (.int (p4 &&& (3 : Int32))), .val (.ref b47), .val (.ref b47), .unset, .unset] [])) t
          refine XS.aload X52.here hx rfl (hb hby at_69) rfl rfl ?_
          show Steps p.tables e below (T52.setTop (mkF m 71 #[.val (.long q1), .second, .val (.long q2), .second, .val (.long q3), .second, .val (.int p4), .val (.long q2), .second, .val (.int (p4 &&& (3 : Int32))), .val (.ref b47), .val (.ref b47), .unset, .unset] [(.ref b47)])) t
          refine XS.ifnonnullYes X52.here hx rfl (pc0 := 71) (pc' := 76) rfl (hb hby at_71) rfl (by decide) (by decide) ?_
          show Steps p.tables e below (T52.setTop (mkF m 76 #[.val (.long q1), .second, .val (.long q2), .second, .val (.long q3), .second, .val (.int p4), .val (.long q2), .second, .val (.int (p4 &&& (3 : Int32))), .val (.ref b47), .val (.ref b47), .unset, .unset] [])) t
          refine XS.lloadN X52.here hx rfl (hb hby at_76) rfl ?_
          show Steps p.tables e below (T52.setTop (mkF m 77 #[.val (.long q1), .second, .val (.long q2), .second, .val (.long q3), .second, .val (.int p4), .val (.long q2), .second, .val (.int (p4 &&& (3 : Int32))), .val (.ref b47), .val (.ref b47), .unset, .unset] [(.long q2)])) t
          refine XS.lload X52.here hx rfl (hb hby at_77) rfl ?_
          show Steps p.tables e below (T52.setTop (mkF m 79 #[.val (.long q1), .second, .val (.long q2), .second, .val (.long q3), .second, .val (.int p4), .val (.long q2), .second, .val (.int (p4 &&& (3 : Int32))), .val (.ref b47), .val (.ref b47), .unset, .unset] [(.long q2), (.long q2)])) t
          refine XS.lcmp X52.here hx rfl (hb hby at_79) rfl ?_
          show Steps p.tables e below (T52.setTop (mkF m 80 #[.val (.long q1), .second, .val (.long q2), .second, .val (.long q3), .second, .val (.int p4), .val (.long q2), .second, .val (.int (p4 &&& (3 : Int32))), .val (.ref b47), .val (.ref b47), .unset, .unset] [(.int (lcmpW q2 q2))])) t
          refine XS.ifNo X52.here hx rfl (hb hby at_80) rfl ((if0 _ _).trans (tlt hc51).2.1) ?_
          show Steps p.tables e below (T52.setTop (mkF m 83 #[.val (.long q1), .second, .val (.long q2), .second, .val (.long q3), .second, .val (.int p4), .val (.long q2), .second, .val (.int (p4 &&& (3 : Int32))), .val (.ref b47), .val (.ref b47), .unset, .unset] [])) t
          refine XS.lloadN X52.here hx rfl (hb hby at_83) rfl ?_
          show Steps p.tables e below (T52.setTop (mkF m 84 #[.val (.long q1), .second, .val (.long q2), .second, .val (.long q3), .second, .val (.int p4), .val (.long q2), .second, .val (.int (p4 &&& (3 : Int32))), .val (.ref b47), .val (.ref b47), .unset, .unset] [(.long q2)])) t
          refine XS.goto X52.here hx rfl (pc0 := 84) (pc' := 90) rfl (hb hby at_84) (by decide) (by decide) ?_
          show Steps p.tables e below (T52.setTop (mkF m 90 #[.val (.long q1), .second, .val (.long q2), .second, .val (.long q3), .second, .val (.int p4), .val (.long q2), .second, .val (.int (p4 &&& (3 : Int32))), .val (.ref b47), .val (.ref b47), .unset, .unset] [(.long q2)])) t
          refine XS.lstore X52.here hx rfl (hb hby at_90) rfl (l' := #[.val (.long q1), .second, .val (.long q2), .second, .val (.long q3), .second, .val (.int p4), .val (.long q2), .second, .val (.int (p4 &&& (3 : Int32))), .val (.ref b47), .val (.ref b47), .val (.long q2), .second]) rfl ?_
          show Steps p.tables e below (T52.setTop (mkF m 92 #[.val (.long q1), .second, .val (.long q2), .second, .val (.long q3), .second, .val (.int p4), .val (.long q2), .second, .val (.int (p4 &&& (3 : Int32))), .val (.ref b47), .val (.ref b47), .val (.long q2), .second] [])) t
          refine XS.aload X52.here hx rfl (hb hby at_92) rfl rfl ?_
          exact k
        refine WP.st bk53 ?_
        clear bk53
        obtain ⟨cq54, kq54, q54a, q54b, q54c⟩ := isOf hZ Kq52 E_b47
        obtain ⟨_, _, ⟨T54, L54, k54, n54⟩, -, X54, ⟨Lc54, hQ54, l54, y54, z54⟩, st54⟩ := X52.virtualBack hx (y := (⟨"com/example/deodar/deodar/workingcopy/FileState", "size", "()J"⟩ : MethodName)) (z := (⟨"com/example/deodar/deodar/workingcopy/FileState", "size", "()J"⟩ : MethodName)) hown (mvT hZ (hw _ (List.mem_of_getElem? (i := 23) rfl))) (mvT hZ (hw _ (List.mem_of_getElem? (i := 24) rfl))) (notFace_of_selects (args := #[]) (mvT hZ (hw _ (List.mem_of_getElem? (i := 26) rfl)))) (mvT hZ (hw _ (List.mem_of_getElem? (i := 26) rfl))) (mvT hZ (hw _ (List.mem_of_getElem? (i := 25) rfl))) (by decide) (backOf (W := 0) (rm5 l Z a0 hw [] b47 q1 h49 n0 Z0 F_b47_size) hZ (hw _ (List.mem_of_getElem? (i := 27) rfl)) (hw _ (List.mem_of_getElem? (i := 2) rfl)) (by decide) (by decide)) q54a q54c (g := (mkF m 94 #[.val (.long q1), .second, .val (.long q2), .second, .val (.long q3), .second, .val (.int p4), .val (.long q2), .second, .val (.int (p4 &&& (3 : Int32))), .val (.ref b47), .val (.ref b47), .val (.long q2), .second] [(.ref b47)])) rfl (by rw [hml]; rfl) (Steps.refl _) (argsL := []) (rest := []) (lenOf pd_3 rfl) rfl (by show 2 * 0 + _ ≤ _; exact Nat.le_of_eq rfl) (hb hby at_94) (fun _ _ => ⟨rfl, Kq52, (by decide : 1 + 0 ≤ _), (by decide : 2 + 0 ≤ _)⟩)
        dsimp only [Pt.U, Pt.locs, Pt.cells, Pt.slots] at X54 l54 y54 z54 st54 hQ54
        subst l54 y54 z54
        obtain ⟨rfl, Nq54, Kq54⟩ := hQ54
        replace NF := Fr.app NF Nq54
        clear Nq54
        refine WP.tr st54 ?_
        clear st54
        replace Kq54 := Kq54.trans (rfl : h49 = h49)
        show WP p.tables e below _ T54 (mkF m 97 #[.val (.long q1), .second, .val (.long q2), .second, .val (.long q3), .second, .val (.int p4), .val (.long q2), .second, .val (.int (p4 &&& (3 : Int32))), .val (.ref b47), .val (.ref b47), .val (.long q2), .second] [(.long q1)])
        have bk55 : ∀ t, Steps p.tables e below (T54.setTop (mkF m 104 #[.val (.long q1), .second, .val (.long q2), .second, .val (.long q3), .second, .val (.int p4), .val (.long q2), .second, .val (.int (p4 &&& (3 : Int32))), .val (.ref b47), .val (.ref b47), .val (.long q2), .second] [(.ref b47)])) t → Steps p.tables e below (T54.setTop (mkF m 97 #[.val (.long q1), .second, .val (.long q2), .second, .val (.long q3), .second, .val (.int p4), .val (.long q2), .second, .val (.int (p4 &&& (3 : Int32))), .val (.ref b47), .val (.ref b47), .val (.long q2), .second] [(.long q1)])) t := fun t k => by
          refine XS.lloadN X54.here hx rfl (hb hby at_97) rfl ?_
          show Steps p.tables e below (T54.setTop (mkF m 98 #[.val (.long q1), .second, .val (.long q2), .second, .val (.long q3), .second, .val (.int p4), .val (.long q2), .second, .val (.int (p4 &&& (3 : Int32))), .val (.ref b47), .val (.ref b47), .val (.long q2), .second] [(.long q1), (.long q1)])) t
          refine XS.lcmp X54.here hx rfl (hb hby at_98) rfl ?_
          show Steps p.tables e below (T54.setTop (mkF m 99 #[.val (.long q1), .second, .val (.long q2), .second, .val (.long q3), .second, .val (.int p4), .val (.long q2), .second, .val (.int (p4 &&& (3 : Int32))), .val (.ref b47), .val (.ref b47), .val (.long q2), .second] [(.int (lcmpW q1 q1))])) t
          refine XS.ifNo X54.here hx rfl (hb hby at_99) rfl ((if0 _ _).trans (teq ((lw_eq _ _).2 rfl)).2) ?_
          show Steps p.tables e below (T54.setTop (mkF m 102 #[.val (.long q1), .second, .val (.long q2), .second, .val (.long q3), .second, .val (.int p4), .val (.long q2), .second, .val (.int (p4 &&& (3 : Int32))), .val (.ref b47), .val (.ref b47), .val (.long q2), .second] [])) t
          refine XS.aload X54.here hx rfl (hb hby at_102) rfl rfl ?_
          exact k
        refine WP.st bk55 ?_
        clear bk55
        obtain ⟨cq56, kq56, q56a, q56b, q56c⟩ := isOf hZ Kq54 E_b47
        obtain ⟨_, _, ⟨T56, L56, k56, n56⟩, -, X56, ⟨Lc56, hQ56, l56, y56, z56⟩, st56⟩ := X54.virtualBack hx (y := (⟨"com/example/deodar/deodar/workingcopy/FileState", "modified", "()J"⟩ : MethodName)) (z := (⟨"com/example/deodar/deodar/workingcopy/FileState", "modified", "()J"⟩ : MethodName)) hown (mvT hZ (hw _ (List.mem_of_getElem? (i := 28) rfl))) (mvT hZ (hw _ (List.mem_of_getElem? (i := 29) rfl))) (notFace_of_selects (args := #[]) (mvT hZ (hw _ (List.mem_of_getElem? (i := 31) rfl)))) (mvT hZ (hw _ (List.mem_of_getElem? (i := 31) rfl))) (mvT hZ (hw _ (List.mem_of_getElem? (i := 30) rfl))) (by decide) (backOf (W := 0) (rm6 l Z a0 hw [] b47 q2 h49 n0 Z0 F_b47_modified) hZ (hw _ (List.mem_of_getElem? (i := 32) rfl)) (hw _ (List.mem_of_getElem? (i := 2) rfl)) (by decide) (by decide)) q56a q56c (g := (mkF m 104 #[.val (.long q1), .second, .val (.long q2), .second, .val (.long q3), .second, .val (.int p4), .val (.long q2), .second, .val (.int (p4 &&& (3 : Int32))), .val (.ref b47), .val (.ref b47), .val (.long q2), .second] [(.ref b47)])) rfl (by rw [hml]; rfl) (Steps.refl _) (argsL := []) (rest := []) (lenOf pd_3 rfl) rfl (by show 2 * 0 + _ ≤ _; exact Nat.le_of_eq rfl) (hb hby at_104) (fun _ _ => ⟨rfl, Kq54, (by decide : 1 + 0 ≤ _), (by decide : 2 + 0 ≤ _)⟩)
        dsimp only [Pt.U, Pt.locs, Pt.cells, Pt.slots] at X56 l56 y56 z56 st56 hQ56
        subst l56 y56 z56
        obtain ⟨rfl, Nq56, Kq56⟩ := hQ56
        replace NF := Fr.app NF Nq56
        clear Nq56
        refine WP.tr st56 ?_
        clear st56
        replace Kq56 := Kq56.trans (rfl : h49 = h49)
        show WP p.tables e below _ T56 (mkF m 107 #[.val (.long q1), .second, .val (.long q2), .second, .val (.long q3), .second, .val (.int p4), .val (.long q2), .second, .val (.int (p4 &&& (3 : Int32))), .val (.ref b47), .val (.ref b47), .val (.long q2), .second] [(.long q2)])
        have bk57 : ∀ t, Steps p.tables e below (T56.setTop (mkF m 118 #[.val (.long q1), .second, .val (.long q2), .second, .val (.long q3), .second, .val (.int p4), .val (.long q2), .second, .val (.int (p4 &&& (3 : Int32))), .val (.ref b47), .val (.ref b47), .val (.long q2), .second] [(.int (1 : Int32))])) t → Steps p.tables e below (T56.setTop (mkF m 107 #[.val (.long q1), .second, .val (.long q2), .second, .val (.long q3), .second, .val (.int p4), .val (.long q2), .second, .val (.int (p4 &&& (3 : Int32))), .val (.ref b47), .val (.ref b47), .val (.long q2), .second] [(.long q2)])) t := fun t k => by
          refine XS.lload X56.here hx rfl (hb hby at_107) rfl ?_
          show Steps p.tables e below (T56.setTop (mkF m 109 #[.val (.long q1), .second, .val (.long q2), .second, .val (.long q3), .second, .val (.int p4), .val (.long q2), .second, .val (.int (p4 &&& (3 : Int32))), .val (.ref b47), .val (.ref b47), .val (.long q2), .second] [(.long q2), (.long q2)])) t
          refine XS.lcmp X56.here hx rfl (hb hby at_109) rfl ?_
          show Steps p.tables e below (T56.setTop (mkF m 110 #[.val (.long q1), .second, .val (.long q2), .second, .val (.long q3), .second, .val (.int p4), .val (.long q2), .second, .val (.int (p4 &&& (3 : Int32))), .val (.ref b47), .val (.ref b47), .val (.long q2), .second] [(.int (lcmpW q2 q2))])) t
          refine XS.ifNo X56.here hx rfl (hb hby at_110) rfl ((if0 _ _).trans (teq ((lw_eq _ _).2 rfl)).2) ?_
          show Steps p.tables e below (T56.setTop (mkF m 113 #[.val (.long q1), .second, .val (.long q2), .second, .val (.long q3), .second, .val (.int p4), .val (.long q2), .second, .val (.int (p4 &&& (3 : Int32))), .val (.ref b47), .val (.ref b47), .val (.long q2), .second] [])) t
          refine XS.iconst X56.here hx rfl (hb hby at_113) ?_
          show Steps p.tables e below (T56.setTop (mkF m 114 #[.val (.long q1), .second, .val (.long q2), .second, .val (.long q3), .second, .val (.int p4), .val (.long q2), .second, .val (.int (p4 &&& (3 : Int32))), .val (.ref b47), .val (.ref b47), .val (.long q2), .second] [(.int (1 : Int32))])) t
          refine XS.goto X56.here hx rfl (pc0 := 114) (pc' := 118) rfl (hb hby at_114) (by decide) (by decide) ?_
          exact k
        refine WP.st bk57 ?_
        clear bk57
        subst hG
        obtain ⟨fs, hr, hrun, hended, hW, hsame⟩ := X56.leave (v := some (.int (1 : Int32))) (fun h => by rw [Bd.returns] at h; cases h)
        refine WP.fin ⟨_, _, ?_, hrun, hended, _, _, rfl, ?_, ⟨_, rfl⟩, hW, hsame.mono (by decide) (by decide)⟩
        · exact retN X56 hx (t := .boolean) Bd.returns (by simp) (hb hby at_118) hr
        · show Q0 Z q1 q2 q3 p4 h0 n0 _ T56.heap _
          rw [Kq56]
          exact ⟨rfl, NF⟩
      · skip
        obtain ⟨cq58, kq58, q58a, q58b, q58c⟩ := isOf hZ e49 E_b47
        obtain ⟨_, _, ⟨T58, L58, k58, n58⟩, -, X58, ⟨Lc58, hQ58, l58, y58, z58⟩, st58⟩ := X49.virtualBack hx (y := (⟨"com/example/deodar/deodar/workingcopy/FileState", "toRecord", "(J)Lcom/example/deodar/deodar/workingcopy/FileState;"⟩ : MethodName)) (z := (⟨"com/example/deodar/deodar/workingcopy/FileState", "toRecord", "(J)Lcom/example/deodar/deodar/workingcopy/FileState;"⟩ : MethodName)) hown (mvT hZ (hw _ (List.mem_of_getElem? (i := 18) rfl))) (mvT hZ (hw _ (List.mem_of_getElem? (i := 19) rfl))) (notFace_of_selects (args := #[]) (mvT hZ (hw _ (List.mem_of_getElem? (i := 21) rfl)))) (mvT hZ (hw _ (List.mem_of_getElem? (i := 21) rfl))) (mvT hZ (hw _ (List.mem_of_getElem? (i := 20) rfl))) (by decide) (backOf (W := 0) (rm4n l Z a0 hw [] b47 q2 q1 q2 h49 n0 Z0 F_b47_size F_b47_modified hc51) hZ (hw _ (List.mem_of_getElem? (i := 22) rfl)) (hw _ (List.mem_of_getElem? (i := 2) rfl)) (by decide) (by decide)) q58a q58c (g := (mkF m 64 #[.val (.long q1), .second, .val (.long q2), .second, .val (.long q3), .second, .val (.int p4), .val (.long q2), .second, .val (.int (p4 &&& (3 : Int32))), .val (.ref b47), .unset, .unset, .unset] [(.long q2), (.ref b47)])) rfl (by rw [hml]; rfl) (Steps.refl _) (argsL := [(.long q2)]) (rest := []) (lenOf pd_2 rfl) rfl (by show 2 * 0 + _ ≤ _; exact Nat.le_of_eq rfl) (hb hby at_64) (fun _ _ => ⟨rfl, e49, (by decide : 1 + 1 ≤ _), (by decide : 2 + 2 ≤ _)⟩)
        dsimp only [Pt.U, Pt.locs, Pt.cells, Pt.slots] at X58 l58 y58 z58 st58 hQ58
        subst l58 y58 z58
        obtain ⟨r_58, rfl, Nq58, Kq58, szq_r_58, nE58_r_58, nF58_r_58_size, nF58_r_58_modified⟩ := hQ58
        replace NF := Fr.app NF Nq58
        clear Nq58
        refine WP.tr st58 ?_
        clear st58
        obtain ⟨h58, e58⟩ : ∃ h, T58.heap = h := ⟨_, rfl⟩
        rw [e58] at Kq58 nE58_r_58 nF58_r_58_size nF58_r_58_modified
        have ne_b47_r_58 : b47 ≠ r_58 := Nat.ne_of_lt (Nat.lt_of_lt_of_le E_b47.lt szq_r_58)
        replace E_b47 := E_b47.keep Kq58
        replace F_b47_size := F_b47_size.keep Kq58 (by exact nin0)
        replace F_b47_modified := F_b47_modified.keep Kq58 (by exact nin0)
        replace Z0 := Nat.le_trans Z0 Kq58.1
        clear Kq58
        have E_r_58 := nE58_r_58
        clear nE58_r_58
        have F_r_58_size := nF58_r_58_size
        clear nF58_r_58_size
        have F_r_58_modified := nF58_r_58_modified
        clear nF58_r_58_modified
        show WP p.tables e below _ T58 (mkF m 67 #[.val (.long q1), .second, .val (.long q2), .second, .val (.long q3), .second, .val (.int p4), .val (.long q2), .second, .val (.int (p4 &&& (3 : Int32))), .val (.ref b47), .unset, .unset, .unset] [(.ref r_58)])
        have bk59 : ∀ t, Steps p.tables e below (T58.setTop (mkF m 94 #[.val (.long q1), .second, .val (.long q2), .second, .val (.long q3), .second, .val (.int p4), .val (.long q2), .second, .val (.int (p4 &&& (3 : Int32))), .val (.ref b47), .val (.ref r_58), .val (.long (-9223372036854775808 : Int64)), .second] [(.ref r_58)])) t → Steps p.tables e below (T58.setTop (mkF m 67 #[.val (.long q1), .second, .val (.long q2), .second, .val (.long q3), .second, .val (.int p4), .val (.long q2), .second, .val (.int (p4 &&& (3 : Int32))), .val (.ref b47), .unset, .unset, .unset] [(.ref r_58)])) t := fun t k => by
          refine XS.astore X58.here hx rfl (hb hby at_67) rfl rfl (l' := #[.val (.long q1), .second, .val (.long q2), .second, .val (.long q3), .second, .val (.int p4), .val (.long q2), .second, .val (.int (p4 &&& (3 : Int32))), .val (.ref b47), .val (.ref r_58), .unset, .unset]) rfl ?_
          show Steps p.tables e below (T58.setTop (mkF m 69 #[.val (.long q1), .second, .val (.long q2), .second, .val (.long q3), .second, .val (.int p4), .val (.long q2), .second, .val (.int (p4 &&& (3 : Int32))), .val (.ref b47), .val (.ref r_58), .unset, .unset] [])) t
          refine XS.aload X58.here hx rfl (hb hby at_69) rfl rfl ?_
          show Steps p.tables e below (T58.setTop (mkF m 71 #[.val (.long q1), .second, .val (.long q2), .second, .val (.long q3), .second, .val (.int p4), .val (.long q2), .second, .val (.int (p4 &&& (3 : Int32))), .val (.ref b47), .val (.ref r_58), .unset, .unset] [(.ref r_58)])) t
          refine XS.ifnonnullYes X58.here hx rfl (pc0 := 71) (pc' := 76) rfl (hb hby at_71) rfl (by decide) (by decide) ?_
          show Steps p.tables e below (T58.setTop (mkF m 76 #[.val (.long q1), .second, .val (.long q2), .second, .val (.long q3), .second, .val (.int p4), .val (.long q2), .second, .val (.int (p4 &&& (3 : Int32))), .val (.ref b47), .val (.ref r_58), .unset, .unset] [])) t
          refine XS.lloadN X58.here hx rfl (hb hby at_76) rfl ?_
          show Steps p.tables e below (T58.setTop (mkF m 77 #[.val (.long q1), .second, .val (.long q2), .second, .val (.long q3), .second, .val (.int p4), .val (.long q2), .second, .val (.int (p4 &&& (3 : Int32))), .val (.ref b47), .val (.ref r_58), .unset, .unset] [(.long q2)])) t
          refine XS.lload X58.here hx rfl (hb hby at_77) rfl ?_
          show Steps p.tables e below (T58.setTop (mkF m 79 #[.val (.long q1), .second, .val (.long q2), .second, .val (.long q3), .second, .val (.int p4), .val (.long q2), .second, .val (.int (p4 &&& (3 : Int32))), .val (.ref b47), .val (.ref r_58), .unset, .unset] [(.long q2), (.long q2)])) t
          refine XS.lcmp X58.here hx rfl (hb hby at_79) rfl ?_
          show Steps p.tables e below (T58.setTop (mkF m 80 #[.val (.long q1), .second, .val (.long q2), .second, .val (.long q3), .second, .val (.int p4), .val (.long q2), .second, .val (.int (p4 &&& (3 : Int32))), .val (.ref b47), .val (.ref r_58), .unset, .unset] [(.int (lcmpW q2 q2))])) t
          refine XS.ifYes X58.here hx rfl (pc0 := 80) (pc' := 87) rfl (hb hby at_80) rfl ((if0 _ _).trans (flt hc51).2.1) (by decide) (by decide) ?_
          show Steps p.tables e below (T58.setTop (mkF m 87 #[.val (.long q1), .second, .val (.long q2), .second, .val (.long q3), .second, .val (.int p4), .val (.long q2), .second, .val (.int (p4 &&& (3 : Int32))), .val (.ref b47), .val (.ref r_58), .unset, .unset] [])) t
          refine X58.ldc2Long hx hown (mvT hZ (hw _ (List.mem_of_getElem? (i := 36) rfl))) (g := (mkF m 87 #[.val (.long q1), .second, .val (.long q2), .second, .val (.long q3), .second, .val (.int p4), .val (.long q2), .second, .val (.int (p4 &&& (3 : Int32))), .val (.ref b47), .val (.ref r_58), .unset, .unset] [])) rfl (hb hby at_87) _ ?_
          show Steps p.tables e below (T58.setTop (mkF m 90 #[.val (.long q1), .second, .val (.long q2), .second, .val (.long q3), .second, .val (.int p4), .val (.long q2), .second, .val (.int (p4 &&& (3 : Int32))), .val (.ref b47), .val (.ref r_58), .unset, .unset] [(.long (-9223372036854775808 : Int64))])) t
          refine XS.lstore X58.here hx rfl (hb hby at_90) rfl (l' := #[.val (.long q1), .second, .val (.long q2), .second, .val (.long q3), .second, .val (.int p4), .val (.long q2), .second, .val (.int (p4 &&& (3 : Int32))), .val (.ref b47), .val (.ref r_58), .val (.long (-9223372036854775808 : Int64)), .second]) rfl ?_
          show Steps p.tables e below (T58.setTop (mkF m 92 #[.val (.long q1), .second, .val (.long q2), .second, .val (.long q3), .second, .val (.int p4), .val (.long q2), .second, .val (.int (p4 &&& (3 : Int32))), .val (.ref b47), .val (.ref r_58), .val (.long (-9223372036854775808 : Int64)), .second] [])) t
          refine XS.aload X58.here hx rfl (hb hby at_92) rfl rfl ?_
          exact k
        refine WP.st bk59 ?_
        clear bk59
        obtain ⟨cq60, kq60, q60a, q60b, q60c⟩ := isOf hZ e58 E_r_58
        obtain ⟨_, _, ⟨T60, L60, k60, n60⟩, -, X60, ⟨Lc60, hQ60, l60, y60, z60⟩, st60⟩ := X58.virtualBack hx (y := (⟨"com/example/deodar/deodar/workingcopy/FileState", "size", "()J"⟩ : MethodName)) (z := (⟨"com/example/deodar/deodar/workingcopy/FileState", "size", "()J"⟩ : MethodName)) hown (mvT hZ (hw _ (List.mem_of_getElem? (i := 23) rfl))) (mvT hZ (hw _ (List.mem_of_getElem? (i := 24) rfl))) (notFace_of_selects (args := #[]) (mvT hZ (hw _ (List.mem_of_getElem? (i := 26) rfl)))) (mvT hZ (hw _ (List.mem_of_getElem? (i := 26) rfl))) (mvT hZ (hw _ (List.mem_of_getElem? (i := 25) rfl))) (by decide) (backOf (W := 0) (rm5 l Z a0 hw [] r_58 q1 h58 n0 Z0 F_r_58_size) hZ (hw _ (List.mem_of_getElem? (i := 27) rfl)) (hw _ (List.mem_of_getElem? (i := 2) rfl)) (by decide) (by decide)) q60a q60c (g := (mkF m 94 #[.val (.long q1), .second, .val (.long q2), .second, .val (.long q3), .second, .val (.int p4), .val (.long q2), .second, .val (.int (p4 &&& (3 : Int32))), .val (.ref b47), .val (.ref r_58), .val (.long (-9223372036854775808 : Int64)), .second] [(.ref r_58)])) rfl (by rw [hml]; rfl) (Steps.refl _) (argsL := []) (rest := []) (lenOf pd_3 rfl) rfl (by show 2 * 0 + _ ≤ _; exact Nat.le_of_eq rfl) (hb hby at_94) (fun _ _ => ⟨rfl, e58, (by decide : 2 + 0 ≤ _), (by decide : 4 + 0 ≤ _)⟩)
        dsimp only [Pt.U, Pt.locs, Pt.cells, Pt.slots] at X60 l60 y60 z60 st60 hQ60
        subst l60 y60 z60
        obtain ⟨rfl, Nq60, Kq60⟩ := hQ60
        replace NF := Fr.app NF Nq60
        clear Nq60
        refine WP.tr st60 ?_
        clear st60
        replace Kq60 := Kq60.trans (rfl : h58 = h58)
        show WP p.tables e below _ T60 (mkF m 97 #[.val (.long q1), .second, .val (.long q2), .second, .val (.long q3), .second, .val (.int p4), .val (.long q2), .second, .val (.int (p4 &&& (3 : Int32))), .val (.ref b47), .val (.ref r_58), .val (.long (-9223372036854775808 : Int64)), .second] [(.long q1)])
        have bk61 : ∀ t, Steps p.tables e below (T60.setTop (mkF m 104 #[.val (.long q1), .second, .val (.long q2), .second, .val (.long q3), .second, .val (.int p4), .val (.long q2), .second, .val (.int (p4 &&& (3 : Int32))), .val (.ref b47), .val (.ref r_58), .val (.long (-9223372036854775808 : Int64)), .second] [(.ref r_58)])) t → Steps p.tables e below (T60.setTop (mkF m 97 #[.val (.long q1), .second, .val (.long q2), .second, .val (.long q3), .second, .val (.int p4), .val (.long q2), .second, .val (.int (p4 &&& (3 : Int32))), .val (.ref b47), .val (.ref r_58), .val (.long (-9223372036854775808 : Int64)), .second] [(.long q1)])) t := fun t k => by
          refine XS.lloadN X60.here hx rfl (hb hby at_97) rfl ?_
          show Steps p.tables e below (T60.setTop (mkF m 98 #[.val (.long q1), .second, .val (.long q2), .second, .val (.long q3), .second, .val (.int p4), .val (.long q2), .second, .val (.int (p4 &&& (3 : Int32))), .val (.ref b47), .val (.ref r_58), .val (.long (-9223372036854775808 : Int64)), .second] [(.long q1), (.long q1)])) t
          refine XS.lcmp X60.here hx rfl (hb hby at_98) rfl ?_
          show Steps p.tables e below (T60.setTop (mkF m 99 #[.val (.long q1), .second, .val (.long q2), .second, .val (.long q3), .second, .val (.int p4), .val (.long q2), .second, .val (.int (p4 &&& (3 : Int32))), .val (.ref b47), .val (.ref r_58), .val (.long (-9223372036854775808 : Int64)), .second] [(.int (lcmpW q1 q1))])) t
          refine XS.ifNo X60.here hx rfl (hb hby at_99) rfl ((if0 _ _).trans (teq ((lw_eq _ _).2 rfl)).2) ?_
          show Steps p.tables e below (T60.setTop (mkF m 102 #[.val (.long q1), .second, .val (.long q2), .second, .val (.long q3), .second, .val (.int p4), .val (.long q2), .second, .val (.int (p4 &&& (3 : Int32))), .val (.ref b47), .val (.ref r_58), .val (.long (-9223372036854775808 : Int64)), .second] [])) t
          refine XS.aload X60.here hx rfl (hb hby at_102) rfl rfl ?_
          exact k
        refine WP.st bk61 ?_
        clear bk61
        obtain ⟨cq62, kq62, q62a, q62b, q62c⟩ := isOf hZ Kq60 E_r_58
        obtain ⟨_, _, ⟨T62, L62, k62, n62⟩, -, X62, ⟨Lc62, hQ62, l62, y62, z62⟩, st62⟩ := X60.virtualBack hx (y := (⟨"com/example/deodar/deodar/workingcopy/FileState", "modified", "()J"⟩ : MethodName)) (z := (⟨"com/example/deodar/deodar/workingcopy/FileState", "modified", "()J"⟩ : MethodName)) hown (mvT hZ (hw _ (List.mem_of_getElem? (i := 28) rfl))) (mvT hZ (hw _ (List.mem_of_getElem? (i := 29) rfl))) (notFace_of_selects (args := #[]) (mvT hZ (hw _ (List.mem_of_getElem? (i := 31) rfl)))) (mvT hZ (hw _ (List.mem_of_getElem? (i := 31) rfl))) (mvT hZ (hw _ (List.mem_of_getElem? (i := 30) rfl))) (by decide) (backOf (W := 0) (rm6 l Z a0 hw [] r_58 (-9223372036854775808 : Int64) h58 n0 Z0 F_r_58_modified) hZ (hw _ (List.mem_of_getElem? (i := 32) rfl)) (hw _ (List.mem_of_getElem? (i := 2) rfl)) (by decide) (by decide)) q62a q62c (g := (mkF m 104 #[.val (.long q1), .second, .val (.long q2), .second, .val (.long q3), .second, .val (.int p4), .val (.long q2), .second, .val (.int (p4 &&& (3 : Int32))), .val (.ref b47), .val (.ref r_58), .val (.long (-9223372036854775808 : Int64)), .second] [(.ref r_58)])) rfl (by rw [hml]; rfl) (Steps.refl _) (argsL := []) (rest := []) (lenOf pd_3 rfl) rfl (by show 2 * 0 + _ ≤ _; exact Nat.le_of_eq rfl) (hb hby at_104) (fun _ _ => ⟨rfl, Kq60, (by decide : 2 + 0 ≤ _), (by decide : 4 + 0 ≤ _)⟩)
        dsimp only [Pt.U, Pt.locs, Pt.cells, Pt.slots] at X62 l62 y62 z62 st62 hQ62
        subst l62 y62 z62
        obtain ⟨rfl, Nq62, Kq62⟩ := hQ62
        replace NF := Fr.app NF Nq62
        clear Nq62
        refine WP.tr st62 ?_
        clear st62
        replace Kq62 := Kq62.trans (rfl : h58 = h58)
        show WP p.tables e below _ T62 (mkF m 107 #[.val (.long q1), .second, .val (.long q2), .second, .val (.long q3), .second, .val (.int p4), .val (.long q2), .second, .val (.int (p4 &&& (3 : Int32))), .val (.ref b47), .val (.ref r_58), .val (.long (-9223372036854775808 : Int64)), .second] [(.long (-9223372036854775808 : Int64))])
        have bk63 : ∀ t, Steps p.tables e below (T62.setTop (mkF m 118 #[.val (.long q1), .second, .val (.long q2), .second, .val (.long q3), .second, .val (.int p4), .val (.long q2), .second, .val (.int (p4 &&& (3 : Int32))), .val (.ref b47), .val (.ref r_58), .val (.long (-9223372036854775808 : Int64)), .second] [(.int (1 : Int32))])) t → Steps p.tables e below (T62.setTop (mkF m 107 #[.val (.long q1), .second, .val (.long q2), .second, .val (.long q3), .second, .val (.int p4), .val (.long q2), .second, .val (.int (p4 &&& (3 : Int32))), .val (.ref b47), .val (.ref r_58), .val (.long (-9223372036854775808 : Int64)), .second] [(.long (-9223372036854775808 : Int64))])) t := fun t k => by
          refine XS.lload X62.here hx rfl (hb hby at_107) rfl ?_
          show Steps p.tables e below (T62.setTop (mkF m 109 #[.val (.long q1), .second, .val (.long q2), .second, .val (.long q3), .second, .val (.int p4), .val (.long q2), .second, .val (.int (p4 &&& (3 : Int32))), .val (.ref b47), .val (.ref r_58), .val (.long (-9223372036854775808 : Int64)), .second] [(.long (-9223372036854775808 : Int64)), (.long (-9223372036854775808 : Int64))])) t
          refine XS.lcmp X62.here hx rfl (hb hby at_109) rfl ?_
          show Steps p.tables e below (T62.setTop (mkF m 110 #[.val (.long q1), .second, .val (.long q2), .second, .val (.long q3), .second, .val (.int p4), .val (.long q2), .second, .val (.int (p4 &&& (3 : Int32))), .val (.ref b47), .val (.ref r_58), .val (.long (-9223372036854775808 : Int64)), .second] [(.int (lcmpW (-9223372036854775808 : Int64) (-9223372036854775808 : Int64)))])) t
          refine XS.ifNo X62.here hx rfl (hb hby at_110) rfl ((if0 _ _).trans (teq ((lw_eq _ _).2 rfl)).2) ?_
          show Steps p.tables e below (T62.setTop (mkF m 113 #[.val (.long q1), .second, .val (.long q2), .second, .val (.long q3), .second, .val (.int p4), .val (.long q2), .second, .val (.int (p4 &&& (3 : Int32))), .val (.ref b47), .val (.ref r_58), .val (.long (-9223372036854775808 : Int64)), .second] [])) t
          refine XS.iconst X62.here hx rfl (hb hby at_113) ?_
          show Steps p.tables e below (T62.setTop (mkF m 114 #[.val (.long q1), .second, .val (.long q2), .second, .val (.long q3), .second, .val (.int p4), .val (.long q2), .second, .val (.int (p4 &&& (3 : Int32))), .val (.ref b47), .val (.ref r_58), .val (.long (-9223372036854775808 : Int64)), .second] [(.int (1 : Int32))])) t
          refine XS.goto X62.here hx rfl (pc0 := 114) (pc' := 118) rfl (hb hby at_114) (by decide) (by decide) ?_
          exact k
        refine WP.st bk63 ?_
        clear bk63
        subst hG
        obtain ⟨fs, hr, hrun, hended, hW, hsame⟩ := X62.leave (v := some (.int (1 : Int32))) (fun h => by rw [Bd.returns] at h; cases h)
        refine WP.fin ⟨_, _, ?_, hrun, hended, _, _, rfl, ?_, ⟨_, rfl⟩, hW, hsame.mono (by decide) (by decide)⟩
        · exact retN X62 hx (t := .boolean) Bd.returns (by simp) (hb hby at_118) hr
        · show Q0 Z q1 q2 q3 p4 h0 n0 _ T62.heap _
          rw [Kq62]
          exact ⟨rfl, NF⟩
    · skip
      have bk65 : ∀ t, Steps p.tables e below (s₁.setTop (mkF m 33 #[.val (.long q1), .second, .val (.long q2), .second, .val (.long q3), .second, .val (.int p4), .unset, .unset, .val (.int (p4 &&& (3 : Int32))), .unset, .unset, .unset, .unset] [(.int (2 : Int32)), (.int (p4 &&& (3 : Int32)))])) t → Steps p.tables e below (s₁.setTop (mkF m 21 #[.val (.long q1), .second, .val (.long q2), .second, .val (.long q3), .second, .val (.int p4), .unset, .unset, .val (.int (p4 &&& (3 : Int32))), .unset, .unset, .unset, .unset] [(.int (1 : Int32)), (.int (p4 &&& (3 : Int32)))])) t := fun t k => by
        refine XS.icmpYes X0.here hx rfl (pc0 := 21) (pc' := 30) rfl (hb hby at_21) rfl (feq hc44).2 (by decide) (by decide) ?_
        show Steps p.tables e below (s₁.setTop (mkF m 30 #[.val (.long q1), .second, .val (.long q2), .second, .val (.long q3), .second, .val (.int p4), .unset, .unset, .val (.int (p4 &&& (3 : Int32))), .unset, .unset, .unset, .unset] [])) t
        refine XS.iload X0.here hx rfl (hb hby at_30) rfl ?_
        show Steps p.tables e below (s₁.setTop (mkF m 32 #[.val (.long q1), .second, .val (.long q2), .second, .val (.long q3), .second, .val (.int p4), .unset, .unset, .val (.int (p4 &&& (3 : Int32))), .unset, .unset, .unset, .unset] [(.int (p4 &&& (3 : Int32)))])) t
        refine XS.iconst X0.here hx rfl (hb hby at_32) ?_
        exact k
      refine WP.st bk65 ?_
      clear bk65
      by_cases hc64 : (p4 &&& (3 : Int32)) = (2 : Int32)
      · skip
        have bk66 : ∀ t, Steps p.tables e below (s₁.setTop (mkF m 49 #[.val (.long q1), .second, .val (.long q2), .second, .val (.long q3), .second, .val (.int p4), .val (.long (q2 + (1 : Int64))), .second, .val (.int (p4 &&& (3 : Int32))), .unset, .unset, .unset, .unset] [])) t → Steps p.tables e below (s₁.setTop (mkF m 33 #[.val (.long q1), .second, .val (.long q2), .second, .val (.long q3), .second, .val (.int p4), .unset, .unset, .val (.int (p4 &&& (3 : Int32))), .unset, .unset, .unset, .unset] [(.int (2 : Int32)), (.int (p4 &&& (3 : Int32)))])) t := fun t k => by
          refine XS.icmpNo X0.here hx rfl (hb hby at_33) rfl (teq hc64).2 ?_
          show Steps p.tables e below (s₁.setTop (mkF m 36 #[.val (.long q1), .second, .val (.long q2), .second, .val (.long q3), .second, .val (.int p4), .unset, .unset, .val (.int (p4 &&& (3 : Int32))), .unset, .unset, .unset, .unset] [])) t
          refine XS.lloadN X0.here hx rfl (hb hby at_36) rfl ?_
          show Steps p.tables e below (s₁.setTop (mkF m 37 #[.val (.long q1), .second, .val (.long q2), .second, .val (.long q3), .second, .val (.int p4), .unset, .unset, .val (.int (p4 &&& (3 : Int32))), .unset, .unset, .unset, .unset] [(.long q2)])) t
          refine XS.lconst X0.here hx rfl (hb hby at_37) ?_
          show Steps p.tables e below (s₁.setTop (mkF m 38 #[.val (.long q1), .second, .val (.long q2), .second, .val (.long q3), .second, .val (.int p4), .unset, .unset, .val (.int (p4 &&& (3 : Int32))), .unset, .unset, .unset, .unset] [(.long (1 : Int64)), (.long q2)])) t
          refine XS.ladd X0.here hx rfl (hb hby at_38) rfl ?_
          show Steps p.tables e below (s₁.setTop (mkF m 39 #[.val (.long q1), .second, .val (.long q2), .second, .val (.long q3), .second, .val (.int p4), .unset, .unset, .val (.int (p4 &&& (3 : Int32))), .unset, .unset, .unset, .unset] [(.long (q2 + (1 : Int64)))])) t
          refine XS.lstore X0.here hx rfl (hb hby at_39) rfl (l' := #[.val (.long q1), .second, .val (.long q2), .second, .val (.long q3), .second, .val (.int p4), .val (.long (q2 + (1 : Int64))), .second, .val (.int (p4 &&& (3 : Int32))), .unset, .unset, .unset, .unset]) rfl ?_
          show Steps p.tables e below (s₁.setTop (mkF m 41 #[.val (.long q1), .second, .val (.long q2), .second, .val (.long q3), .second, .val (.int p4), .val (.long (q2 + (1 : Int64))), .second, .val (.int (p4 &&& (3 : Int32))), .unset, .unset, .unset, .unset] [])) t
          refine XS.goto X0.here hx rfl (pc0 := 41) (pc' := 49) rfl (hb hby at_41) (by decide) (by decide) ?_
          exact k
        refine WP.st bk66 ?_
        clear bk66
        obtain ⟨T67, h67, X67, e67, E67, A67, D67, -, st67⟩ := newO X0 hx hZ hown (hw _ (List.mem_of_getElem? (i := 0) rfl)) (hw _ (List.mem_of_getElem? (i := 1) rfl)) (hw _ (List.mem_of_getElem? (i := 2) rfl)) e0 (g := (mkF m 49 #[.val (.long q1), .second, .val (.long q2), .second, .val (.long q3), .second, .val (.int p4), .val (.long (q2 + (1 : Int64))), .second, .val (.int (p4 &&& (3 : Int32))), .unset, .unset, .unset, .unset] [])) rfl (hb hby at_49) (by decide) (by decide)
        obtain ⟨b67, g67⟩ : ∃ z, z = h0.size := ⟨_, rfl⟩
        rw [← g67] at A67 D67 st67
        refine WP.st st67 ?_
        clear st67
        have g_b67 : n0 ≤ b67 := Nat.le_trans Z0 (Nat.le_of_eq g67.symm)
        replace Z0 := Nat.le_trans Z0 E67.1
        have E_b67 := A67
        have F_b67_size : Fld Z h67 b67 "com/example/deodar/deodar/workingcopy/FileState" "size" "J" (.long (0 : Int64)) := D67 (Or.inr (hw _ (List.mem_of_getElem? (i := 15) rfl))) (ty := .long) (by decide)
        have F_b67_modified : Fld Z h67 b67 "com/example/deodar/deodar/workingcopy/FileState" "modified" "J" (.long (0 : Int64)) := D67 (Or.inr (hw _ (List.mem_of_getElem? (i := 17) rfl))) (ty := .long) (by decide)
        clear D67 A67
        show WP p.tables e below _ T67 (mkF m 52 #[.val (.long q1), .second, .val (.long q2), .second, .val (.long q3), .second, .val (.int p4), .val (.long (q2 + (1 : Int64))), .second, .val (.int (p4 &&& (3 : Int32))), .unset, .unset, .unset, .unset] [(.ref b67)])
        have bk68 : ∀ t, Steps p.tables e below (T67.setTop (mkF m 55 #[.val (.long q1), .second, .val (.long q2), .second, .val (.long q3), .second, .val (.int p4), .val (.long (q2 + (1 : Int64))), .second, .val (.int (p4 &&& (3 : Int32))), .unset, .unset, .unset, .unset] [(.long q2), (.long q1), (.ref b67), (.ref b67)])) t → Steps p.tables e below (T67.setTop (mkF m 52 #[.val (.long q1), .second, .val (.long q2), .second, .val (.long q3), .second, .val (.int p4), .val (.long (q2 + (1 : Int64))), .second, .val (.int (p4 &&& (3 : Int32))), .unset, .unset, .unset, .unset] [(.ref b67)])) t := fun t k => by
          refine XS.dup X67.here hx rfl (hb hby at_52) rfl rfl ?_
          show Steps p.tables e below (T67.setTop (mkF m 53 #[.val (.long q1), .second, .val (.long q2), .second, .val (.long q3), .second, .val (.int p4), .val (.long (q2 + (1 : Int64))), .second, .val (.int (p4 &&& (3 : Int32))), .unset, .unset, .unset, .unset] [(.ref b67), (.ref b67)])) t
          refine XS.lloadN X67.here hx rfl (hb hby at_53) rfl ?_
          show Steps p.tables e below (T67.setTop (mkF m 54 #[.val (.long q1), .second, .val (.long q2), .second, .val (.long q3), .second, .val (.int p4), .val (.long (q2 + (1 : Int64))), .second, .val (.int (p4 &&& (3 : Int32))), .unset, .unset, .unset, .unset] [(.long q1), (.ref b67), (.ref b67)])) t
          refine XS.lloadN X67.here hx rfl (hb hby at_54) rfl ?_
          exact k
        refine WP.st bk68 ?_
        clear bk68
        obtain ⟨_, _, ⟨T69, L69, k69, n69⟩, -, X69, ⟨Lc69, hQ69, l69, y69, z69⟩, st69⟩ := X67.specialBack hx (y := (⟨"com/example/deodar/deodar/workingcopy/FileState", "<init>", "(JJ)V"⟩ : MethodName)) rfl hown (mvT hZ (hw _ (List.mem_of_getElem? (i := 3) rfl))) (mvT hZ (hw _ (List.mem_of_getElem? (i := 4) rfl))) (mvT hZ (hw _ (List.mem_of_getElem? (i := 5) rfl))) (by decide) (backOf (W := 1) (rm1 l Z a0 hw [] b67 q1 q2 (0 : Int64) (0 : Int64) h67 n0 Z0 E_b67 g_b67 F_b67_size F_b67_modified) hZ (hw _ (List.mem_of_getElem? (i := 5) rfl)) (hw _ (List.mem_of_getElem? (i := 2) rfl)) (by decide) (by decide)) (g := (mkF m 55 #[.val (.long q1), .second, .val (.long q2), .second, .val (.long q3), .second, .val (.int p4), .val (.long (q2 + (1 : Int64))), .second, .val (.int (p4 &&& (3 : Int32))), .unset, .unset, .unset, .unset] [(.long q2), (.long q1), (.ref b67), (.ref b67)])) rfl (by rw [hml]; rfl) (Steps.refl _) (a := b67) (argsL := [(.long q1), (.long q2)]) (rest := [(.ref b67)]) (lenOf pd_1 rfl) rfl (by show 2 * 0 + _ ≤ _; exact Nat.le_of_eq rfl) (hb hby at_55) (fun _ _ => ⟨rfl, e67, (by decide : 1 + 0 ≤ _), (by decide : 2 + 0 ≤ _)⟩)
        dsimp only [Pt.U, Pt.locs, Pt.cells, Pt.slots] at X69 l69 y69 z69 st69 hQ69
        subst l69 y69 z69
        obtain ⟨rfl, Nq69, Kq69, nF69_b67_size, nF69_b67_modified⟩ := hQ69
        replace NF := Fr.app NF Nq69
        clear Nq69
        refine WP.tr st69 ?_
        clear st69
        obtain ⟨h69, e69⟩ : ∃ h, T69.heap = h := ⟨_, rfl⟩
        rw [e69] at Kq69 nF69_b67_size nF69_b67_modified
        replace E_b67 := E_b67.keep Kq69
        clear F_b67_size
        clear F_b67_modified
        replace Z0 := Nat.le_trans Z0 Kq69.1
        clear Kq69
        have F_b67_size := nF69_b67_size
        clear nF69_b67_size
        have F_b67_modified := nF69_b67_modified
        clear nF69_b67_modified
        show WP p.tables e below _ T69 (mkF m 58 #[.val (.long q1), .second, .val (.long q2), .second, .val (.long q3), .second, .val (.int p4), .val (.long (q2 + (1 : Int64))), .second, .val (.int (p4 &&& (3 : Int32))), .unset, .unset, .unset, .unset] [(.ref b67)])
        have bk70 : ∀ t, Steps p.tables e below (T69.setTop (mkF m 64 #[.val (.long q1), .second, .val (.long q2), .second, .val (.long q3), .second, .val (.int p4), .val (.long (q2 + (1 : Int64))), .second, .val (.int (p4 &&& (3 : Int32))), .val (.ref b67), .unset, .unset, .unset] [(.long (q2 + (1 : Int64))), (.ref b67)])) t → Steps p.tables e below (T69.setTop (mkF m 58 #[.val (.long q1), .second, .val (.long q2), .second, .val (.long q3), .second, .val (.int p4), .val (.long (q2 + (1 : Int64))), .second, .val (.int (p4 &&& (3 : Int32))), .unset, .unset, .unset, .unset] [(.ref b67)])) t := fun t k => by
          refine XS.astore X69.here hx rfl (hb hby at_58) rfl rfl (l' := #[.val (.long q1), .second, .val (.long q2), .second, .val (.long q3), .second, .val (.int p4), .val (.long (q2 + (1 : Int64))), .second, .val (.int (p4 &&& (3 : Int32))), .val (.ref b67), .unset, .unset, .unset]) rfl ?_
          show Steps p.tables e below (T69.setTop (mkF m 60 #[.val (.long q1), .second, .val (.long q2), .second, .val (.long q3), .second, .val (.int p4), .val (.long (q2 + (1 : Int64))), .second, .val (.int (p4 &&& (3 : Int32))), .val (.ref b67), .unset, .unset, .unset] [])) t
          refine XS.aload X69.here hx rfl (hb hby at_60) rfl rfl ?_
          show Steps p.tables e below (T69.setTop (mkF m 62 #[.val (.long q1), .second, .val (.long q2), .second, .val (.long q3), .second, .val (.int p4), .val (.long (q2 + (1 : Int64))), .second, .val (.int (p4 &&& (3 : Int32))), .val (.ref b67), .unset, .unset, .unset] [(.ref b67)])) t
          refine XS.lload X69.here hx rfl (hb hby at_62) rfl ?_
          exact k
        refine WP.st bk70 ?_
        clear bk70
        by_cases hc71 : (lcmpW q2 (q2 + (1 : Int64))) < (0 : Int32)
        · skip
          obtain ⟨cq72, kq72, q72a, q72b, q72c⟩ := isOf hZ e69 E_b67
          obtain ⟨_, _, ⟨T72, L72, k72, n72⟩, -, X72, ⟨Lc72, hQ72, l72, y72, z72⟩, st72⟩ := X69.virtualBack hx (y := (⟨"com/example/deodar/deodar/workingcopy/FileState", "toRecord", "(J)Lcom/example/deodar/deodar/workingcopy/FileState;"⟩ : MethodName)) (z := (⟨"com/example/deodar/deodar/workingcopy/FileState", "toRecord", "(J)Lcom/example/deodar/deodar/workingcopy/FileState;"⟩ : MethodName)) hown (mvT hZ (hw _ (List.mem_of_getElem? (i := 18) rfl))) (mvT hZ (hw _ (List.mem_of_getElem? (i := 19) rfl))) (notFace_of_selects (args := #[]) (mvT hZ (hw _ (List.mem_of_getElem? (i := 21) rfl)))) (mvT hZ (hw _ (List.mem_of_getElem? (i := 21) rfl))) (mvT hZ (hw _ (List.mem_of_getElem? (i := 20) rfl))) (by decide) (backOf (W := 0) (rm4y l Z a0 hw [] b67 (q2 + (1 : Int64)) q1 q2 h69 n0 Z0 F_b67_size F_b67_modified hc71) hZ (hw _ (List.mem_of_getElem? (i := 22) rfl)) (hw _ (List.mem_of_getElem? (i := 2) rfl)) (by decide) (by decide)) q72a q72c (g := (mkF m 64 #[.val (.long q1), .second, .val (.long q2), .second, .val (.long q3), .second, .val (.int p4), .val (.long (q2 + (1 : Int64))), .second, .val (.int (p4 &&& (3 : Int32))), .val (.ref b67), .unset, .unset, .unset] [(.long (q2 + (1 : Int64))), (.ref b67)])) rfl (by rw [hml]; rfl) (Steps.refl _) (argsL := [(.long (q2 + (1 : Int64)))]) (rest := []) (lenOf pd_2 rfl) rfl (by show 2 * 0 + _ ≤ _; exact Nat.le_of_eq rfl) (hb hby at_64) (fun _ _ => ⟨rfl, e69, (by decide : 1 + 0 ≤ _), (by decide : 2 + 0 ≤ _)⟩)
          dsimp only [Pt.U, Pt.locs, Pt.cells, Pt.slots] at X72 l72 y72 z72 st72 hQ72
          subst l72 y72 z72
          obtain ⟨rfl, Nq72, Kq72⟩ := hQ72
          replace NF := Fr.app NF Nq72
          clear Nq72
          refine WP.tr st72 ?_
          clear st72
          replace Kq72 := Kq72.trans (rfl : h69 = h69)
          show WP p.tables e below _ T72 (mkF m 67 #[.val (.long q1), .second, .val (.long q2), .second, .val (.long q3), .second, .val (.int p4), .val (.long (q2 + (1 : Int64))), .second, .val (.int (p4 &&& (3 : Int32))), .val (.ref b67), .unset, .unset, .unset] [(.ref b67)])
          have bk73 : ∀ t, Steps p.tables e below (T72.setTop (mkF m 94 #[.val (.long q1), .second, .val (.long q2), .second, .val (.long q3), .second, .val (.int p4), .val (.long (q2 + (1 : Int64))), .second, .val (.int (p4 &&& (3 : Int32))), .val (.ref b67), .val (.ref b67), .val (.long q2), .second] [(.ref b67)])) t → Steps p.tables e below (T72.setTop (mkF m 67 #[.val (.long q1), .second, .val (.long q2), .second, .val (.long q3), .second, .val (.int p4), .val (.long (q2 + (1 : Int64))), .second, .val (.int (p4 &&& (3 : Int32))), .val (.ref b67), .unset, .unset, .unset] [(.ref b67)])) t := fun t k => by
            refine XS.astore X72.here hx rfl (hb hby at_67) rfl rfl (l' := #[.val (.long q1), .second, .val (.long q2), .second, .val (.long q3), .second, .val (.int p4), .val (.long (q2 + (1 : Int64))), .second, .val (.int (p4 &&& (3 : Int32))), .val (.ref b67), .val (.ref b67), .unset, .unset]) rfl ?_
            show Steps p.tables e below (T72.setTop (mkF m 69 #[.val (.long q1), .second, .val (.long q2), .second, .val (.long q3), .second, .val (.int p4), .val (.long (q2 + (1 : Int64))), .second, .val (.int (p4 &&& (3 : Int32))), .val (.ref b67), .val (.ref b67), .unset, .unset] [])) t
            refine XS.aload X72.here hx rfl (hb hby at_69) rfl rfl ?_
            show Steps p.tables e below (T72.setTop (mkF m 71 #[.val (.long q1), .second, .val (.long q2), .second, .val (.long q3), .second, .val (.int p4), .val (.long (q2 + (1 : Int64))), .second, .val (.int (p4 &&& (3 : Int32))), .val (.ref b67), .val (.ref b67), .unset, .unset] [(.ref b67)])) t
            refine XS.ifnonnullYes X72.here hx rfl (pc0 := 71) (pc' := 76) rfl (hb hby at_71) rfl (by decide) (by decide) ?_
            show Steps p.tables e below (T72.setTop (mkF m 76 #[.val (.long q1), .second, .val (.long q2), .second, .val (.long q3), .second, .val (.int p4), .val (.long (q2 + (1 : Int64))), .second, .val (.int (p4 &&& (3 : Int32))), .val (.ref b67), .val (.ref b67), .unset, .unset] [])) t
            refine XS.lloadN X72.here hx rfl (hb hby at_76) rfl ?_
            show Steps p.tables e below (T72.setTop (mkF m 77 #[.val (.long q1), .second, .val (.long q2), .second, .val (.long q3), .second, .val (.int p4), .val (.long (q2 + (1 : Int64))), .second, .val (.int (p4 &&& (3 : Int32))), .val (.ref b67), .val (.ref b67), .unset, .unset] [(.long q2)])) t
            refine XS.lload X72.here hx rfl (hb hby at_77) rfl ?_
            show Steps p.tables e below (T72.setTop (mkF m 79 #[.val (.long q1), .second, .val (.long q2), .second, .val (.long q3), .second, .val (.int p4), .val (.long (q2 + (1 : Int64))), .second, .val (.int (p4 &&& (3 : Int32))), .val (.ref b67), .val (.ref b67), .unset, .unset] [(.long (q2 + (1 : Int64))), (.long q2)])) t
            refine XS.lcmp X72.here hx rfl (hb hby at_79) rfl ?_
            show Steps p.tables e below (T72.setTop (mkF m 80 #[.val (.long q1), .second, .val (.long q2), .second, .val (.long q3), .second, .val (.int p4), .val (.long (q2 + (1 : Int64))), .second, .val (.int (p4 &&& (3 : Int32))), .val (.ref b67), .val (.ref b67), .unset, .unset] [(.int (lcmpW q2 (q2 + (1 : Int64))))])) t
            refine XS.ifNo X72.here hx rfl (hb hby at_80) rfl ((if0 _ _).trans (tlt hc71).2.1) ?_
            show Steps p.tables e below (T72.setTop (mkF m 83 #[.val (.long q1), .second, .val (.long q2), .second, .val (.long q3), .second, .val (.int p4), .val (.long (q2 + (1 : Int64))), .second, .val (.int (p4 &&& (3 : Int32))), .val (.ref b67), .val (.ref b67), .unset, .unset] [])) t
            refine XS.lloadN X72.here hx rfl (hb hby at_83) rfl ?_
            show Steps p.tables e below (T72.setTop (mkF m 84 #[.val (.long q1), .second, .val (.long q2), .second, .val (.long q3), .second, .val (.int p4), .val (.long (q2 + (1 : Int64))), .second, .val (.int (p4 &&& (3 : Int32))), .val (.ref b67), .val (.ref b67), .unset, .unset] [(.long q2)])) t
            refine XS.goto X72.here hx rfl (pc0 := 84) (pc' := 90) rfl (hb hby at_84) (by decide) (by decide) ?_
            show Steps p.tables e below (T72.setTop (mkF m 90 #[.val (.long q1), .second, .val (.long q2), .second, .val (.long q3), .second, .val (.int p4), .val (.long (q2 + (1 : Int64))), .second, .val (.int (p4 &&& (3 : Int32))), .val (.ref b67), .val (.ref b67), .unset, .unset] [(.long q2)])) t
            refine XS.lstore X72.here hx rfl (hb hby at_90) rfl (l' := #[.val (.long q1), .second, .val (.long q2), .second, .val (.long q3), .second, .val (.int p4), .val (.long (q2 + (1 : Int64))), .second, .val (.int (p4 &&& (3 : Int32))), .val (.ref b67), .val (.ref b67), .val (.long q2), .second]) rfl ?_
            show Steps p.tables e below (T72.setTop (mkF m 92 #[.val (.long q1), .second, .val (.long q2), .second, .val (.long q3), .second, .val (.int p4), .val (.long (q2 + (1 : Int64))), .second, .val (.int (p4 &&& (3 : Int32))), .val (.ref b67), .val (.ref b67), .val (.long q2), .second] [])) t
            refine XS.aload X72.here hx rfl (hb hby at_92) rfl rfl ?_
            exact k
          refine WP.st bk73 ?_
          clear bk73
          obtain ⟨cq74, kq74, q74a, q74b, q74c⟩ := isOf hZ Kq72 E_b67
          obtain ⟨_, _, ⟨T74, L74, k74, n74⟩, -, X74, ⟨Lc74, hQ74, l74, y74, z74⟩, st74⟩ := X72.virtualBack hx (y := (⟨"com/example/deodar/deodar/workingcopy/FileState", "size", "()J"⟩ : MethodName)) (z := (⟨"com/example/deodar/deodar/workingcopy/FileState", "size", "()J"⟩ : MethodName)) hown (mvT hZ (hw _ (List.mem_of_getElem? (i := 23) rfl))) (mvT hZ (hw _ (List.mem_of_getElem? (i := 24) rfl))) (notFace_of_selects (args := #[]) (mvT hZ (hw _ (List.mem_of_getElem? (i := 26) rfl)))) (mvT hZ (hw _ (List.mem_of_getElem? (i := 26) rfl))) (mvT hZ (hw _ (List.mem_of_getElem? (i := 25) rfl))) (by decide) (backOf (W := 0) (rm5 l Z a0 hw [] b67 q1 h69 n0 Z0 F_b67_size) hZ (hw _ (List.mem_of_getElem? (i := 27) rfl)) (hw _ (List.mem_of_getElem? (i := 2) rfl)) (by decide) (by decide)) q74a q74c (g := (mkF m 94 #[.val (.long q1), .second, .val (.long q2), .second, .val (.long q3), .second, .val (.int p4), .val (.long (q2 + (1 : Int64))), .second, .val (.int (p4 &&& (3 : Int32))), .val (.ref b67), .val (.ref b67), .val (.long q2), .second] [(.ref b67)])) rfl (by rw [hml]; rfl) (Steps.refl _) (argsL := []) (rest := []) (lenOf pd_3 rfl) rfl (by show 2 * 0 + _ ≤ _; exact Nat.le_of_eq rfl) (hb hby at_94) (fun _ _ => ⟨rfl, Kq72, (by decide : 1 + 0 ≤ _), (by decide : 2 + 0 ≤ _)⟩)
          dsimp only [Pt.U, Pt.locs, Pt.cells, Pt.slots] at X74 l74 y74 z74 st74 hQ74
          subst l74 y74 z74
          obtain ⟨rfl, Nq74, Kq74⟩ := hQ74
          replace NF := Fr.app NF Nq74
          clear Nq74
          refine WP.tr st74 ?_
          clear st74
          replace Kq74 := Kq74.trans (rfl : h69 = h69)
          show WP p.tables e below _ T74 (mkF m 97 #[.val (.long q1), .second, .val (.long q2), .second, .val (.long q3), .second, .val (.int p4), .val (.long (q2 + (1 : Int64))), .second, .val (.int (p4 &&& (3 : Int32))), .val (.ref b67), .val (.ref b67), .val (.long q2), .second] [(.long q1)])
          have bk75 : ∀ t, Steps p.tables e below (T74.setTop (mkF m 104 #[.val (.long q1), .second, .val (.long q2), .second, .val (.long q3), .second, .val (.int p4), .val (.long (q2 + (1 : Int64))), .second, .val (.int (p4 &&& (3 : Int32))), .val (.ref b67), .val (.ref b67), .val (.long q2), .second] [(.ref b67)])) t → Steps p.tables e below (T74.setTop (mkF m 97 #[.val (.long q1), .second, .val (.long q2), .second, .val (.long q3), .second, .val (.int p4), .val (.long (q2 + (1 : Int64))), .second, .val (.int (p4 &&& (3 : Int32))), .val (.ref b67), .val (.ref b67), .val (.long q2), .second] [(.long q1)])) t := fun t k => by
            refine XS.lloadN X74.here hx rfl (hb hby at_97) rfl ?_
            show Steps p.tables e below (T74.setTop (mkF m 98 #[.val (.long q1), .second, .val (.long q2), .second, .val (.long q3), .second, .val (.int p4), .val (.long (q2 + (1 : Int64))), .second, .val (.int (p4 &&& (3 : Int32))), .val (.ref b67), .val (.ref b67), .val (.long q2), .second] [(.long q1), (.long q1)])) t
            refine XS.lcmp X74.here hx rfl (hb hby at_98) rfl ?_
            show Steps p.tables e below (T74.setTop (mkF m 99 #[.val (.long q1), .second, .val (.long q2), .second, .val (.long q3), .second, .val (.int p4), .val (.long (q2 + (1 : Int64))), .second, .val (.int (p4 &&& (3 : Int32))), .val (.ref b67), .val (.ref b67), .val (.long q2), .second] [(.int (lcmpW q1 q1))])) t
            refine XS.ifNo X74.here hx rfl (hb hby at_99) rfl ((if0 _ _).trans (teq ((lw_eq _ _).2 rfl)).2) ?_
            show Steps p.tables e below (T74.setTop (mkF m 102 #[.val (.long q1), .second, .val (.long q2), .second, .val (.long q3), .second, .val (.int p4), .val (.long (q2 + (1 : Int64))), .second, .val (.int (p4 &&& (3 : Int32))), .val (.ref b67), .val (.ref b67), .val (.long q2), .second] [])) t
            refine XS.aload X74.here hx rfl (hb hby at_102) rfl rfl ?_
            exact k
          refine WP.st bk75 ?_
          clear bk75
          obtain ⟨cq76, kq76, q76a, q76b, q76c⟩ := isOf hZ Kq74 E_b67
          obtain ⟨_, _, ⟨T76, L76, k76, n76⟩, -, X76, ⟨Lc76, hQ76, l76, y76, z76⟩, st76⟩ := X74.virtualBack hx (y := (⟨"com/example/deodar/deodar/workingcopy/FileState", "modified", "()J"⟩ : MethodName)) (z := (⟨"com/example/deodar/deodar/workingcopy/FileState", "modified", "()J"⟩ : MethodName)) hown (mvT hZ (hw _ (List.mem_of_getElem? (i := 28) rfl))) (mvT hZ (hw _ (List.mem_of_getElem? (i := 29) rfl))) (notFace_of_selects (args := #[]) (mvT hZ (hw _ (List.mem_of_getElem? (i := 31) rfl)))) (mvT hZ (hw _ (List.mem_of_getElem? (i := 31) rfl))) (mvT hZ (hw _ (List.mem_of_getElem? (i := 30) rfl))) (by decide) (backOf (W := 0) (rm6 l Z a0 hw [] b67 q2 h69 n0 Z0 F_b67_modified) hZ (hw _ (List.mem_of_getElem? (i := 32) rfl)) (hw _ (List.mem_of_getElem? (i := 2) rfl)) (by decide) (by decide)) q76a q76c (g := (mkF m 104 #[.val (.long q1), .second, .val (.long q2), .second, .val (.long q3), .second, .val (.int p4), .val (.long (q2 + (1 : Int64))), .second, .val (.int (p4 &&& (3 : Int32))), .val (.ref b67), .val (.ref b67), .val (.long q2), .second] [(.ref b67)])) rfl (by rw [hml]; rfl) (Steps.refl _) (argsL := []) (rest := []) (lenOf pd_3 rfl) rfl (by show 2 * 0 + _ ≤ _; exact Nat.le_of_eq rfl) (hb hby at_104) (fun _ _ => ⟨rfl, Kq74, (by decide : 1 + 0 ≤ _), (by decide : 2 + 0 ≤ _)⟩)
          dsimp only [Pt.U, Pt.locs, Pt.cells, Pt.slots] at X76 l76 y76 z76 st76 hQ76
          subst l76 y76 z76
          obtain ⟨rfl, Nq76, Kq76⟩ := hQ76
          replace NF := Fr.app NF Nq76
          clear Nq76
          refine WP.tr st76 ?_
          clear st76
          replace Kq76 := Kq76.trans (rfl : h69 = h69)
          show WP p.tables e below _ T76 (mkF m 107 #[.val (.long q1), .second, .val (.long q2), .second, .val (.long q3), .second, .val (.int p4), .val (.long (q2 + (1 : Int64))), .second, .val (.int (p4 &&& (3 : Int32))), .val (.ref b67), .val (.ref b67), .val (.long q2), .second] [(.long q2)])
          have bk77 : ∀ t, Steps p.tables e below (T76.setTop (mkF m 118 #[.val (.long q1), .second, .val (.long q2), .second, .val (.long q3), .second, .val (.int p4), .val (.long (q2 + (1 : Int64))), .second, .val (.int (p4 &&& (3 : Int32))), .val (.ref b67), .val (.ref b67), .val (.long q2), .second] [(.int (1 : Int32))])) t → Steps p.tables e below (T76.setTop (mkF m 107 #[.val (.long q1), .second, .val (.long q2), .second, .val (.long q3), .second, .val (.int p4), .val (.long (q2 + (1 : Int64))), .second, .val (.int (p4 &&& (3 : Int32))), .val (.ref b67), .val (.ref b67), .val (.long q2), .second] [(.long q2)])) t := fun t k => by
            refine XS.lload X76.here hx rfl (hb hby at_107) rfl ?_
            show Steps p.tables e below (T76.setTop (mkF m 109 #[.val (.long q1), .second, .val (.long q2), .second, .val (.long q3), .second, .val (.int p4), .val (.long (q2 + (1 : Int64))), .second, .val (.int (p4 &&& (3 : Int32))), .val (.ref b67), .val (.ref b67), .val (.long q2), .second] [(.long q2), (.long q2)])) t
            refine XS.lcmp X76.here hx rfl (hb hby at_109) rfl ?_
            show Steps p.tables e below (T76.setTop (mkF m 110 #[.val (.long q1), .second, .val (.long q2), .second, .val (.long q3), .second, .val (.int p4), .val (.long (q2 + (1 : Int64))), .second, .val (.int (p4 &&& (3 : Int32))), .val (.ref b67), .val (.ref b67), .val (.long q2), .second] [(.int (lcmpW q2 q2))])) t
            refine XS.ifNo X76.here hx rfl (hb hby at_110) rfl ((if0 _ _).trans (teq ((lw_eq _ _).2 rfl)).2) ?_
            show Steps p.tables e below (T76.setTop (mkF m 113 #[.val (.long q1), .second, .val (.long q2), .second, .val (.long q3), .second, .val (.int p4), .val (.long (q2 + (1 : Int64))), .second, .val (.int (p4 &&& (3 : Int32))), .val (.ref b67), .val (.ref b67), .val (.long q2), .second] [])) t
            refine XS.iconst X76.here hx rfl (hb hby at_113) ?_
            show Steps p.tables e below (T76.setTop (mkF m 114 #[.val (.long q1), .second, .val (.long q2), .second, .val (.long q3), .second, .val (.int p4), .val (.long (q2 + (1 : Int64))), .second, .val (.int (p4 &&& (3 : Int32))), .val (.ref b67), .val (.ref b67), .val (.long q2), .second] [(.int (1 : Int32))])) t
            refine XS.goto X76.here hx rfl (pc0 := 114) (pc' := 118) rfl (hb hby at_114) (by decide) (by decide) ?_
            exact k
          refine WP.st bk77 ?_
          clear bk77
          subst hG
          obtain ⟨fs, hr, hrun, hended, hW, hsame⟩ := X76.leave (v := some (.int (1 : Int32))) (fun h => by rw [Bd.returns] at h; cases h)
          refine WP.fin ⟨_, _, ?_, hrun, hended, _, _, rfl, ?_, ⟨_, rfl⟩, hW, hsame.mono (by decide) (by decide)⟩
          · exact retN X76 hx (t := .boolean) Bd.returns (by simp) (hb hby at_118) hr
          · show Q0 Z q1 q2 q3 p4 h0 n0 _ T76.heap _
            rw [Kq76]
            exact ⟨rfl, NF⟩
        · skip
          obtain ⟨cq78, kq78, q78a, q78b, q78c⟩ := isOf hZ e69 E_b67
          obtain ⟨_, _, ⟨T78, L78, k78, n78⟩, -, X78, ⟨Lc78, hQ78, l78, y78, z78⟩, st78⟩ := X69.virtualBack hx (y := (⟨"com/example/deodar/deodar/workingcopy/FileState", "toRecord", "(J)Lcom/example/deodar/deodar/workingcopy/FileState;"⟩ : MethodName)) (z := (⟨"com/example/deodar/deodar/workingcopy/FileState", "toRecord", "(J)Lcom/example/deodar/deodar/workingcopy/FileState;"⟩ : MethodName)) hown (mvT hZ (hw _ (List.mem_of_getElem? (i := 18) rfl))) (mvT hZ (hw _ (List.mem_of_getElem? (i := 19) rfl))) (notFace_of_selects (args := #[]) (mvT hZ (hw _ (List.mem_of_getElem? (i := 21) rfl)))) (mvT hZ (hw _ (List.mem_of_getElem? (i := 21) rfl))) (mvT hZ (hw _ (List.mem_of_getElem? (i := 20) rfl))) (by decide) (backOf (W := 0) (rm4n l Z a0 hw [] b67 (q2 + (1 : Int64)) q1 q2 h69 n0 Z0 F_b67_size F_b67_modified hc71) hZ (hw _ (List.mem_of_getElem? (i := 22) rfl)) (hw _ (List.mem_of_getElem? (i := 2) rfl)) (by decide) (by decide)) q78a q78c (g := (mkF m 64 #[.val (.long q1), .second, .val (.long q2), .second, .val (.long q3), .second, .val (.int p4), .val (.long (q2 + (1 : Int64))), .second, .val (.int (p4 &&& (3 : Int32))), .val (.ref b67), .unset, .unset, .unset] [(.long (q2 + (1 : Int64))), (.ref b67)])) rfl (by rw [hml]; rfl) (Steps.refl _) (argsL := [(.long (q2 + (1 : Int64)))]) (rest := []) (lenOf pd_2 rfl) rfl (by show 2 * 0 + _ ≤ _; exact Nat.le_of_eq rfl) (hb hby at_64) (fun _ _ => ⟨rfl, e69, (by decide : 1 + 1 ≤ _), (by decide : 2 + 2 ≤ _)⟩)
          dsimp only [Pt.U, Pt.locs, Pt.cells, Pt.slots] at X78 l78 y78 z78 st78 hQ78
          subst l78 y78 z78
          obtain ⟨r_78, rfl, Nq78, Kq78, szq_r_78, nE78_r_78, nF78_r_78_size, nF78_r_78_modified⟩ := hQ78
          replace NF := Fr.app NF Nq78
          clear Nq78
          refine WP.tr st78 ?_
          clear st78
          obtain ⟨h78, e78⟩ : ∃ h, T78.heap = h := ⟨_, rfl⟩
          rw [e78] at Kq78 nE78_r_78 nF78_r_78_size nF78_r_78_modified
          have ne_b67_r_78 : b67 ≠ r_78 := Nat.ne_of_lt (Nat.lt_of_lt_of_le E_b67.lt szq_r_78)
          replace E_b67 := E_b67.keep Kq78
          replace F_b67_size := F_b67_size.keep Kq78 (by exact nin0)
          replace F_b67_modified := F_b67_modified.keep Kq78 (by exact nin0)
          replace Z0 := Nat.le_trans Z0 Kq78.1
          clear Kq78
          have E_r_78 := nE78_r_78
          clear nE78_r_78
          have F_r_78_size := nF78_r_78_size
          clear nF78_r_78_size
          have F_r_78_modified := nF78_r_78_modified
          clear nF78_r_78_modified
          show WP p.tables e below _ T78 (mkF m 67 #[.val (.long q1), .second, .val (.long q2), .second, .val (.long q3), .second, .val (.int p4), .val (.long (q2 + (1 : Int64))), .second, .val (.int (p4 &&& (3 : Int32))), .val (.ref b67), .unset, .unset, .unset] [(.ref r_78)])
          have bk79 : ∀ t, Steps p.tables e below (T78.setTop (mkF m 94 #[.val (.long q1), .second, .val (.long q2), .second, .val (.long q3), .second, .val (.int p4), .val (.long (q2 + (1 : Int64))), .second, .val (.int (p4 &&& (3 : Int32))), .val (.ref b67), .val (.ref r_78), .val (.long (-9223372036854775808 : Int64)), .second] [(.ref r_78)])) t → Steps p.tables e below (T78.setTop (mkF m 67 #[.val (.long q1), .second, .val (.long q2), .second, .val (.long q3), .second, .val (.int p4), .val (.long (q2 + (1 : Int64))), .second, .val (.int (p4 &&& (3 : Int32))), .val (.ref b67), .unset, .unset, .unset] [(.ref r_78)])) t := fun t k => by
            refine XS.astore X78.here hx rfl (hb hby at_67) rfl rfl (l' := #[.val (.long q1), .second, .val (.long q2), .second, .val (.long q3), .second, .val (.int p4), .val (.long (q2 + (1 : Int64))), .second, .val (.int (p4 &&& (3 : Int32))), .val (.ref b67), .val (.ref r_78), .unset, .unset]) rfl ?_
            show Steps p.tables e below (T78.setTop (mkF m 69 #[.val (.long q1), .second, .val (.long q2), .second, .val (.long q3), .second, .val (.int p4), .val (.long (q2 + (1 : Int64))), .second, .val (.int (p4 &&& (3 : Int32))), .val (.ref b67), .val (.ref r_78), .unset, .unset] [])) t
            refine XS.aload X78.here hx rfl (hb hby at_69) rfl rfl ?_
            show Steps p.tables e below (T78.setTop (mkF m 71 #[.val (.long q1), .second, .val (.long q2), .second, .val (.long q3), .second, .val (.int p4), .val (.long (q2 + (1 : Int64))), .second, .val (.int (p4 &&& (3 : Int32))), .val (.ref b67), .val (.ref r_78), .unset, .unset] [(.ref r_78)])) t
            refine XS.ifnonnullYes X78.here hx rfl (pc0 := 71) (pc' := 76) rfl (hb hby at_71) rfl (by decide) (by decide) ?_
            show Steps p.tables e below (T78.setTop (mkF m 76 #[.val (.long q1), .second, .val (.long q2), .second, .val (.long q3), .second, .val (.int p4), .val (.long (q2 + (1 : Int64))), .second, .val (.int (p4 &&& (3 : Int32))), .val (.ref b67), .val (.ref r_78), .unset, .unset] [])) t
            refine XS.lloadN X78.here hx rfl (hb hby at_76) rfl ?_
            show Steps p.tables e below (T78.setTop (mkF m 77 #[.val (.long q1), .second, .val (.long q2), .second, .val (.long q3), .second, .val (.int p4), .val (.long (q2 + (1 : Int64))), .second, .val (.int (p4 &&& (3 : Int32))), .val (.ref b67), .val (.ref r_78), .unset, .unset] [(.long q2)])) t
            refine XS.lload X78.here hx rfl (hb hby at_77) rfl ?_
            show Steps p.tables e below (T78.setTop (mkF m 79 #[.val (.long q1), .second, .val (.long q2), .second, .val (.long q3), .second, .val (.int p4), .val (.long (q2 + (1 : Int64))), .second, .val (.int (p4 &&& (3 : Int32))), .val (.ref b67), .val (.ref r_78), .unset, .unset] [(.long (q2 + (1 : Int64))), (.long q2)])) t
            refine XS.lcmp X78.here hx rfl (hb hby at_79) rfl ?_
            show Steps p.tables e below (T78.setTop (mkF m 80 #[.val (.long q1), .second, .val (.long q2), .second, .val (.long q3), .second, .val (.int p4), .val (.long (q2 + (1 : Int64))), .second, .val (.int (p4 &&& (3 : Int32))), .val (.ref b67), .val (.ref r_78), .unset, .unset] [(.int (lcmpW q2 (q2 + (1 : Int64))))])) t
            refine XS.ifYes X78.here hx rfl (pc0 := 80) (pc' := 87) rfl (hb hby at_80) rfl ((if0 _ _).trans (flt hc71).2.1) (by decide) (by decide) ?_
            show Steps p.tables e below (T78.setTop (mkF m 87 #[.val (.long q1), .second, .val (.long q2), .second, .val (.long q3), .second, .val (.int p4), .val (.long (q2 + (1 : Int64))), .second, .val (.int (p4 &&& (3 : Int32))), .val (.ref b67), .val (.ref r_78), .unset, .unset] [])) t
            refine X78.ldc2Long hx hown (mvT hZ (hw _ (List.mem_of_getElem? (i := 36) rfl))) (g := (mkF m 87 #[.val (.long q1), .second, .val (.long q2), .second, .val (.long q3), .second, .val (.int p4), .val (.long (q2 + (1 : Int64))), .second, .val (.int (p4 &&& (3 : Int32))), .val (.ref b67), .val (.ref r_78), .unset, .unset] [])) rfl (hb hby at_87) _ ?_
            show Steps p.tables e below (T78.setTop (mkF m 90 #[.val (.long q1), .second, .val (.long q2), .second, .val (.long q3), .second, .val (.int p4), .val (.long (q2 + (1 : Int64))), .second, .val (.int (p4 &&& (3 : Int32))), .val (.ref b67), .val (.ref r_78), .unset, .unset] [(.long (-9223372036854775808 : Int64))])) t
            refine XS.lstore X78.here hx rfl (hb hby at_90) rfl (l' := #[.val (.long q1), .second, .val (.long q2), .second, .val (.long q3), .second, .val (.int p4), .val (.long (q2 + (1 : Int64))), .second, .val (.int (p4 &&& (3 : Int32))), .val (.ref b67), .val (.ref r_78), .val (.long (-9223372036854775808 : Int64)), .second]) rfl ?_
            show Steps p.tables e below (T78.setTop (mkF m 92 #[.val (.long q1), .second, .val (.long q2), .second, .val (.long q3), .second, .val (.int p4), .val (.long (q2 + (1 : Int64))), .second, .val (.int (p4 &&& (3 : Int32))), .val (.ref b67), .val (.ref r_78), .val (.long (-9223372036854775808 : Int64)), .second] [])) t
            refine XS.aload X78.here hx rfl (hb hby at_92) rfl rfl ?_
            exact k
          refine WP.st bk79 ?_
          clear bk79
          obtain ⟨cq80, kq80, q80a, q80b, q80c⟩ := isOf hZ e78 E_r_78
          obtain ⟨_, _, ⟨T80, L80, k80, n80⟩, -, X80, ⟨Lc80, hQ80, l80, y80, z80⟩, st80⟩ := X78.virtualBack hx (y := (⟨"com/example/deodar/deodar/workingcopy/FileState", "size", "()J"⟩ : MethodName)) (z := (⟨"com/example/deodar/deodar/workingcopy/FileState", "size", "()J"⟩ : MethodName)) hown (mvT hZ (hw _ (List.mem_of_getElem? (i := 23) rfl))) (mvT hZ (hw _ (List.mem_of_getElem? (i := 24) rfl))) (notFace_of_selects (args := #[]) (mvT hZ (hw _ (List.mem_of_getElem? (i := 26) rfl)))) (mvT hZ (hw _ (List.mem_of_getElem? (i := 26) rfl))) (mvT hZ (hw _ (List.mem_of_getElem? (i := 25) rfl))) (by decide) (backOf (W := 0) (rm5 l Z a0 hw [] r_78 q1 h78 n0 Z0 F_r_78_size) hZ (hw _ (List.mem_of_getElem? (i := 27) rfl)) (hw _ (List.mem_of_getElem? (i := 2) rfl)) (by decide) (by decide)) q80a q80c (g := (mkF m 94 #[.val (.long q1), .second, .val (.long q2), .second, .val (.long q3), .second, .val (.int p4), .val (.long (q2 + (1 : Int64))), .second, .val (.int (p4 &&& (3 : Int32))), .val (.ref b67), .val (.ref r_78), .val (.long (-9223372036854775808 : Int64)), .second] [(.ref r_78)])) rfl (by rw [hml]; rfl) (Steps.refl _) (argsL := []) (rest := []) (lenOf pd_3 rfl) rfl (by show 2 * 0 + _ ≤ _; exact Nat.le_of_eq rfl) (hb hby at_94) (fun _ _ => ⟨rfl, e78, (by decide : 2 + 0 ≤ _), (by decide : 4 + 0 ≤ _)⟩)
          dsimp only [Pt.U, Pt.locs, Pt.cells, Pt.slots] at X80 l80 y80 z80 st80 hQ80
          subst l80 y80 z80
          obtain ⟨rfl, Nq80, Kq80⟩ := hQ80
          replace NF := Fr.app NF Nq80
          clear Nq80
          refine WP.tr st80 ?_
          clear st80
          replace Kq80 := Kq80.trans (rfl : h78 = h78)
          show WP p.tables e below _ T80 (mkF m 97 #[.val (.long q1), .second, .val (.long q2), .second, .val (.long q3), .second, .val (.int p4), .val (.long (q2 + (1 : Int64))), .second, .val (.int (p4 &&& (3 : Int32))), .val (.ref b67), .val (.ref r_78), .val (.long (-9223372036854775808 : Int64)), .second] [(.long q1)])
          have bk81 : ∀ t, Steps p.tables e below (T80.setTop (mkF m 104 #[.val (.long q1), .second, .val (.long q2), .second, .val (.long q3), .second, .val (.int p4), .val (.long (q2 + (1 : Int64))), .second, .val (.int (p4 &&& (3 : Int32))), .val (.ref b67), .val (.ref r_78), .val (.long (-9223372036854775808 : Int64)), .second] [(.ref r_78)])) t → Steps p.tables e below (T80.setTop (mkF m 97 #[.val (.long q1), .second, .val (.long q2), .second, .val (.long q3), .second, .val (.int p4), .val (.long (q2 + (1 : Int64))), .second, .val (.int (p4 &&& (3 : Int32))), .val (.ref b67), .val (.ref r_78), .val (.long (-9223372036854775808 : Int64)), .second] [(.long q1)])) t := fun t k => by
            refine XS.lloadN X80.here hx rfl (hb hby at_97) rfl ?_
            show Steps p.tables e below (T80.setTop (mkF m 98 #[.val (.long q1), .second, .val (.long q2), .second, .val (.long q3), .second, .val (.int p4), .val (.long (q2 + (1 : Int64))), .second, .val (.int (p4 &&& (3 : Int32))), .val (.ref b67), .val (.ref r_78), .val (.long (-9223372036854775808 : Int64)), .second] [(.long q1), (.long q1)])) t
            refine XS.lcmp X80.here hx rfl (hb hby at_98) rfl ?_
            show Steps p.tables e below (T80.setTop (mkF m 99 #[.val (.long q1), .second, .val (.long q2), .second, .val (.long q3), .second, .val (.int p4), .val (.long (q2 + (1 : Int64))), .second, .val (.int (p4 &&& (3 : Int32))), .val (.ref b67), .val (.ref r_78), .val (.long (-9223372036854775808 : Int64)), .second] [(.int (lcmpW q1 q1))])) t
            refine XS.ifNo X80.here hx rfl (hb hby at_99) rfl ((if0 _ _).trans (teq ((lw_eq _ _).2 rfl)).2) ?_
            show Steps p.tables e below (T80.setTop (mkF m 102 #[.val (.long q1), .second, .val (.long q2), .second, .val (.long q3), .second, .val (.int p4), .val (.long (q2 + (1 : Int64))), .second, .val (.int (p4 &&& (3 : Int32))), .val (.ref b67), .val (.ref r_78), .val (.long (-9223372036854775808 : Int64)), .second] [])) t
            refine XS.aload X80.here hx rfl (hb hby at_102) rfl rfl ?_
            exact k
          refine WP.st bk81 ?_
          clear bk81
          obtain ⟨cq82, kq82, q82a, q82b, q82c⟩ := isOf hZ Kq80 E_r_78
          obtain ⟨_, _, ⟨T82, L82, k82, n82⟩, -, X82, ⟨Lc82, hQ82, l82, y82, z82⟩, st82⟩ := X80.virtualBack hx (y := (⟨"com/example/deodar/deodar/workingcopy/FileState", "modified", "()J"⟩ : MethodName)) (z := (⟨"com/example/deodar/deodar/workingcopy/FileState", "modified", "()J"⟩ : MethodName)) hown (mvT hZ (hw _ (List.mem_of_getElem? (i := 28) rfl))) (mvT hZ (hw _ (List.mem_of_getElem? (i := 29) rfl))) (notFace_of_selects (args := #[]) (mvT hZ (hw _ (List.mem_of_getElem? (i := 31) rfl)))) (mvT hZ (hw _ (List.mem_of_getElem? (i := 31) rfl))) (mvT hZ (hw _ (List.mem_of_getElem? (i := 30) rfl))) (by decide) (backOf (W := 0) (rm6 l Z a0 hw [] r_78 (-9223372036854775808 : Int64) h78 n0 Z0 F_r_78_modified) hZ (hw _ (List.mem_of_getElem? (i := 32) rfl)) (hw _ (List.mem_of_getElem? (i := 2) rfl)) (by decide) (by decide)) q82a q82c (g := (mkF m 104 #[.val (.long q1), .second, .val (.long q2), .second, .val (.long q3), .second, .val (.int p4), .val (.long (q2 + (1 : Int64))), .second, .val (.int (p4 &&& (3 : Int32))), .val (.ref b67), .val (.ref r_78), .val (.long (-9223372036854775808 : Int64)), .second] [(.ref r_78)])) rfl (by rw [hml]; rfl) (Steps.refl _) (argsL := []) (rest := []) (lenOf pd_3 rfl) rfl (by show 2 * 0 + _ ≤ _; exact Nat.le_of_eq rfl) (hb hby at_104) (fun _ _ => ⟨rfl, Kq80, (by decide : 2 + 0 ≤ _), (by decide : 4 + 0 ≤ _)⟩)
          dsimp only [Pt.U, Pt.locs, Pt.cells, Pt.slots] at X82 l82 y82 z82 st82 hQ82
          subst l82 y82 z82
          obtain ⟨rfl, Nq82, Kq82⟩ := hQ82
          replace NF := Fr.app NF Nq82
          clear Nq82
          refine WP.tr st82 ?_
          clear st82
          replace Kq82 := Kq82.trans (rfl : h78 = h78)
          show WP p.tables e below _ T82 (mkF m 107 #[.val (.long q1), .second, .val (.long q2), .second, .val (.long q3), .second, .val (.int p4), .val (.long (q2 + (1 : Int64))), .second, .val (.int (p4 &&& (3 : Int32))), .val (.ref b67), .val (.ref r_78), .val (.long (-9223372036854775808 : Int64)), .second] [(.long (-9223372036854775808 : Int64))])
          have bk83 : ∀ t, Steps p.tables e below (T82.setTop (mkF m 118 #[.val (.long q1), .second, .val (.long q2), .second, .val (.long q3), .second, .val (.int p4), .val (.long (q2 + (1 : Int64))), .second, .val (.int (p4 &&& (3 : Int32))), .val (.ref b67), .val (.ref r_78), .val (.long (-9223372036854775808 : Int64)), .second] [(.int (1 : Int32))])) t → Steps p.tables e below (T82.setTop (mkF m 107 #[.val (.long q1), .second, .val (.long q2), .second, .val (.long q3), .second, .val (.int p4), .val (.long (q2 + (1 : Int64))), .second, .val (.int (p4 &&& (3 : Int32))), .val (.ref b67), .val (.ref r_78), .val (.long (-9223372036854775808 : Int64)), .second] [(.long (-9223372036854775808 : Int64))])) t := fun t k => by
            refine XS.lload X82.here hx rfl (hb hby at_107) rfl ?_
            show Steps p.tables e below (T82.setTop (mkF m 109 #[.val (.long q1), .second, .val (.long q2), .second, .val (.long q3), .second, .val (.int p4), .val (.long (q2 + (1 : Int64))), .second, .val (.int (p4 &&& (3 : Int32))), .val (.ref b67), .val (.ref r_78), .val (.long (-9223372036854775808 : Int64)), .second] [(.long (-9223372036854775808 : Int64)), (.long (-9223372036854775808 : Int64))])) t
            refine XS.lcmp X82.here hx rfl (hb hby at_109) rfl ?_
            show Steps p.tables e below (T82.setTop (mkF m 110 #[.val (.long q1), .second, .val (.long q2), .second, .val (.long q3), .second, .val (.int p4), .val (.long (q2 + (1 : Int64))), .second, .val (.int (p4 &&& (3 : Int32))), .val (.ref b67), .val (.ref r_78), .val (.long (-9223372036854775808 : Int64)), .second] [(.int (lcmpW (-9223372036854775808 : Int64) (-9223372036854775808 : Int64)))])) t
            refine XS.ifNo X82.here hx rfl (hb hby at_110) rfl ((if0 _ _).trans (teq ((lw_eq _ _).2 rfl)).2) ?_
            show Steps p.tables e below (T82.setTop (mkF m 113 #[.val (.long q1), .second, .val (.long q2), .second, .val (.long q3), .second, .val (.int p4), .val (.long (q2 + (1 : Int64))), .second, .val (.int (p4 &&& (3 : Int32))), .val (.ref b67), .val (.ref r_78), .val (.long (-9223372036854775808 : Int64)), .second] [])) t
            refine XS.iconst X82.here hx rfl (hb hby at_113) ?_
            show Steps p.tables e below (T82.setTop (mkF m 114 #[.val (.long q1), .second, .val (.long q2), .second, .val (.long q3), .second, .val (.int p4), .val (.long (q2 + (1 : Int64))), .second, .val (.int (p4 &&& (3 : Int32))), .val (.ref b67), .val (.ref r_78), .val (.long (-9223372036854775808 : Int64)), .second] [(.int (1 : Int32))])) t
            refine XS.goto X82.here hx rfl (pc0 := 114) (pc' := 118) rfl (hb hby at_114) (by decide) (by decide) ?_
            exact k
          refine WP.st bk83 ?_
          clear bk83
          subst hG
          obtain ⟨fs, hr, hrun, hended, hW, hsame⟩ := X82.leave (v := some (.int (1 : Int32))) (fun h => by rw [Bd.returns] at h; cases h)
          refine WP.fin ⟨_, _, ?_, hrun, hended, _, _, rfl, ?_, ⟨_, rfl⟩, hW, hsame.mono (by decide) (by decide)⟩
          · exact retN X82 hx (t := .boolean) Bd.returns (by simp) (hb hby at_118) hr
          · show Q0 Z q1 q2 q3 p4 h0 n0 _ T82.heap _
            rw [Kq82]
            exact ⟨rfl, NF⟩
      · skip
        have bk84 : ∀ t, Steps p.tables e below (s₁.setTop (mkF m 49 #[.val (.long q1), .second, .val (.long q2), .second, .val (.long q3), .second, .val (.int p4), .val (.long (q2 - (1 : Int64))), .second, .val (.int (p4 &&& (3 : Int32))), .unset, .unset, .unset, .unset] [])) t → Steps p.tables e below (s₁.setTop (mkF m 33 #[.val (.long q1), .second, .val (.long q2), .second, .val (.long q3), .second, .val (.int p4), .unset, .unset, .val (.int (p4 &&& (3 : Int32))), .unset, .unset, .unset, .unset] [(.int (2 : Int32)), (.int (p4 &&& (3 : Int32)))])) t := fun t k => by
          refine XS.icmpYes X0.here hx rfl (pc0 := 33) (pc' := 44) rfl (hb hby at_33) rfl (feq hc64).2 (by decide) (by decide) ?_
          show Steps p.tables e below (s₁.setTop (mkF m 44 #[.val (.long q1), .second, .val (.long q2), .second, .val (.long q3), .second, .val (.int p4), .unset, .unset, .val (.int (p4 &&& (3 : Int32))), .unset, .unset, .unset, .unset] [])) t
          refine XS.lloadN X0.here hx rfl (hb hby at_44) rfl ?_
          show Steps p.tables e below (s₁.setTop (mkF m 45 #[.val (.long q1), .second, .val (.long q2), .second, .val (.long q3), .second, .val (.int p4), .unset, .unset, .val (.int (p4 &&& (3 : Int32))), .unset, .unset, .unset, .unset] [(.long q2)])) t
          refine XS.lconst X0.here hx rfl (hb hby at_45) ?_
          show Steps p.tables e below (s₁.setTop (mkF m 46 #[.val (.long q1), .second, .val (.long q2), .second, .val (.long q3), .second, .val (.int p4), .unset, .unset, .val (.int (p4 &&& (3 : Int32))), .unset, .unset, .unset, .unset] [(.long (1 : Int64)), (.long q2)])) t
          refine XS.lsub X0.here hx rfl (hb hby at_46) rfl ?_
          show Steps p.tables e below (s₁.setTop (mkF m 47 #[.val (.long q1), .second, .val (.long q2), .second, .val (.long q3), .second, .val (.int p4), .unset, .unset, .val (.int (p4 &&& (3 : Int32))), .unset, .unset, .unset, .unset] [(.long (q2 - (1 : Int64)))])) t
          refine XS.lstore X0.here hx rfl (hb hby at_47) rfl (l' := #[.val (.long q1), .second, .val (.long q2), .second, .val (.long q3), .second, .val (.int p4), .val (.long (q2 - (1 : Int64))), .second, .val (.int (p4 &&& (3 : Int32))), .unset, .unset, .unset, .unset]) rfl ?_
          exact k
        refine WP.st bk84 ?_
        clear bk84
        obtain ⟨T85, h85, X85, e85, E85, A85, D85, -, st85⟩ := newO X0 hx hZ hown (hw _ (List.mem_of_getElem? (i := 0) rfl)) (hw _ (List.mem_of_getElem? (i := 1) rfl)) (hw _ (List.mem_of_getElem? (i := 2) rfl)) e0 (g := (mkF m 49 #[.val (.long q1), .second, .val (.long q2), .second, .val (.long q3), .second, .val (.int p4), .val (.long (q2 - (1 : Int64))), .second, .val (.int (p4 &&& (3 : Int32))), .unset, .unset, .unset, .unset] [])) rfl (hb hby at_49) (by decide) (by decide)
        obtain ⟨b85, g85⟩ : ∃ z, z = h0.size := ⟨_, rfl⟩
        rw [← g85] at A85 D85 st85
        refine WP.st st85 ?_
        clear st85
        have g_b85 : n0 ≤ b85 := Nat.le_trans Z0 (Nat.le_of_eq g85.symm)
        replace Z0 := Nat.le_trans Z0 E85.1
        have E_b85 := A85
        have F_b85_size : Fld Z h85 b85 "com/example/deodar/deodar/workingcopy/FileState" "size" "J" (.long (0 : Int64)) := D85 (Or.inr (hw _ (List.mem_of_getElem? (i := 15) rfl))) (ty := .long) (by decide)
        have F_b85_modified : Fld Z h85 b85 "com/example/deodar/deodar/workingcopy/FileState" "modified" "J" (.long (0 : Int64)) := D85 (Or.inr (hw _ (List.mem_of_getElem? (i := 17) rfl))) (ty := .long) (by decide)
        clear D85 A85
        show WP p.tables e below _ T85 (mkF m 52 #[.val (.long q1), .second, .val (.long q2), .second, .val (.long q3), .second, .val (.int p4), .val (.long (q2 - (1 : Int64))), .second, .val (.int (p4 &&& (3 : Int32))), .unset, .unset, .unset, .unset] [(.ref b85)])
        have bk86 : ∀ t, Steps p.tables e below (T85.setTop (mkF m 55 #[.val (.long q1), .second, .val (.long q2), .second, .val (.long q3), .second, .val (.int p4), .val (.long (q2 - (1 : Int64))), .second, .val (.int (p4 &&& (3 : Int32))), .unset, .unset, .unset, .unset] [(.long q2), (.long q1), (.ref b85), (.ref b85)])) t → Steps p.tables e below (T85.setTop (mkF m 52 #[.val (.long q1), .second, .val (.long q2), .second, .val (.long q3), .second, .val (.int p4), .val (.long (q2 - (1 : Int64))), .second, .val (.int (p4 &&& (3 : Int32))), .unset, .unset, .unset, .unset] [(.ref b85)])) t := fun t k => by
          refine XS.dup X85.here hx rfl (hb hby at_52) rfl rfl ?_
          show Steps p.tables e below (T85.setTop (mkF m 53 #[.val (.long q1), .second, .val (.long q2), .second, .val (.long q3), .second, .val (.int p4), .val (.long (q2 - (1 : Int64))), .second, .val (.int (p4 &&& (3 : Int32))), .unset, .unset, .unset, .unset] [(.ref b85), (.ref b85)])) t
          refine XS.lloadN X85.here hx rfl (hb hby at_53) rfl ?_
          show Steps p.tables e below (T85.setTop (mkF m 54 #[.val (.long q1), .second, .val (.long q2), .second, .val (.long q3), .second, .val (.int p4), .val (.long (q2 - (1 : Int64))), .second, .val (.int (p4 &&& (3 : Int32))), .unset, .unset, .unset, .unset] [(.long q1), (.ref b85), (.ref b85)])) t
          refine XS.lloadN X85.here hx rfl (hb hby at_54) rfl ?_
          exact k
        refine WP.st bk86 ?_
        clear bk86
        obtain ⟨_, _, ⟨T87, L87, k87, n87⟩, -, X87, ⟨Lc87, hQ87, l87, y87, z87⟩, st87⟩ := X85.specialBack hx (y := (⟨"com/example/deodar/deodar/workingcopy/FileState", "<init>", "(JJ)V"⟩ : MethodName)) rfl hown (mvT hZ (hw _ (List.mem_of_getElem? (i := 3) rfl))) (mvT hZ (hw _ (List.mem_of_getElem? (i := 4) rfl))) (mvT hZ (hw _ (List.mem_of_getElem? (i := 5) rfl))) (by decide) (backOf (W := 1) (rm1 l Z a0 hw [] b85 q1 q2 (0 : Int64) (0 : Int64) h85 n0 Z0 E_b85 g_b85 F_b85_size F_b85_modified) hZ (hw _ (List.mem_of_getElem? (i := 5) rfl)) (hw _ (List.mem_of_getElem? (i := 2) rfl)) (by decide) (by decide)) (g := (mkF m 55 #[.val (.long q1), .second, .val (.long q2), .second, .val (.long q3), .second, .val (.int p4), .val (.long (q2 - (1 : Int64))), .second, .val (.int (p4 &&& (3 : Int32))), .unset, .unset, .unset, .unset] [(.long q2), (.long q1), (.ref b85), (.ref b85)])) rfl (by rw [hml]; rfl) (Steps.refl _) (a := b85) (argsL := [(.long q1), (.long q2)]) (rest := [(.ref b85)]) (lenOf pd_1 rfl) rfl (by show 2 * 0 + _ ≤ _; exact Nat.le_of_eq rfl) (hb hby at_55) (fun _ _ => ⟨rfl, e85, (by decide : 1 + 0 ≤ _), (by decide : 2 + 0 ≤ _)⟩)
        dsimp only [Pt.U, Pt.locs, Pt.cells, Pt.slots] at X87 l87 y87 z87 st87 hQ87
        subst l87 y87 z87
        obtain ⟨rfl, Nq87, Kq87, nF87_b85_size, nF87_b85_modified⟩ := hQ87
        replace NF := Fr.app NF Nq87
        clear Nq87
        refine WP.tr st87 ?_
        clear st87
        obtain ⟨h87, e87⟩ : ∃ h, T87.heap = h := ⟨_, rfl⟩
        rw [e87] at Kq87 nF87_b85_size nF87_b85_modified
        replace E_b85 := E_b85.keep Kq87
        clear F_b85_size
        clear F_b85_modified
        replace Z0 := Nat.le_trans Z0 Kq87.1
        clear Kq87
        have F_b85_size := nF87_b85_size
        clear nF87_b85_size
        have F_b85_modified := nF87_b85_modified
        clear nF87_b85_modified
        show WP p.tables e below _ T87 (mkF m 58 #[.val (.long q1), .second, .val (.long q2), .second, .val (.long q3), .second, .val (.int p4), .val (.long (q2 - (1 : Int64))), .second, .val (.int (p4 &&& (3 : Int32))), .unset, .unset, .unset, .unset] [(.ref b85)])
        have bk88 : ∀ t, Steps p.tables e below (T87.setTop (mkF m 64 #[.val (.long q1), .second, .val (.long q2), .second, .val (.long q3), .second, .val (.int p4), .val (.long (q2 - (1 : Int64))), .second, .val (.int (p4 &&& (3 : Int32))), .val (.ref b85), .unset, .unset, .unset] [(.long (q2 - (1 : Int64))), (.ref b85)])) t → Steps p.tables e below (T87.setTop (mkF m 58 #[.val (.long q1), .second, .val (.long q2), .second, .val (.long q3), .second, .val (.int p4), .val (.long (q2 - (1 : Int64))), .second, .val (.int (p4 &&& (3 : Int32))), .unset, .unset, .unset, .unset] [(.ref b85)])) t := fun t k => by
          refine XS.astore X87.here hx rfl (hb hby at_58) rfl rfl (l' := #[.val (.long q1), .second, .val (.long q2), .second, .val (.long q3), .second, .val (.int p4), .val (.long (q2 - (1 : Int64))), .second, .val (.int (p4 &&& (3 : Int32))), .val (.ref b85), .unset, .unset, .unset]) rfl ?_
          show Steps p.tables e below (T87.setTop (mkF m 60 #[.val (.long q1), .second, .val (.long q2), .second, .val (.long q3), .second, .val (.int p4), .val (.long (q2 - (1 : Int64))), .second, .val (.int (p4 &&& (3 : Int32))), .val (.ref b85), .unset, .unset, .unset] [])) t
          refine XS.aload X87.here hx rfl (hb hby at_60) rfl rfl ?_
          show Steps p.tables e below (T87.setTop (mkF m 62 #[.val (.long q1), .second, .val (.long q2), .second, .val (.long q3), .second, .val (.int p4), .val (.long (q2 - (1 : Int64))), .second, .val (.int (p4 &&& (3 : Int32))), .val (.ref b85), .unset, .unset, .unset] [(.ref b85)])) t
          refine XS.lload X87.here hx rfl (hb hby at_62) rfl ?_
          exact k
        refine WP.st bk88 ?_
        clear bk88
        by_cases hc89 : (lcmpW q2 (q2 - (1 : Int64))) < (0 : Int32)
        · skip
          obtain ⟨cq90, kq90, q90a, q90b, q90c⟩ := isOf hZ e87 E_b85
          obtain ⟨_, _, ⟨T90, L90, k90, n90⟩, -, X90, ⟨Lc90, hQ90, l90, y90, z90⟩, st90⟩ := X87.virtualBack hx (y := (⟨"com/example/deodar/deodar/workingcopy/FileState", "toRecord", "(J)Lcom/example/deodar/deodar/workingcopy/FileState;"⟩ : MethodName)) (z := (⟨"com/example/deodar/deodar/workingcopy/FileState", "toRecord", "(J)Lcom/example/deodar/deodar/workingcopy/FileState;"⟩ : MethodName)) hown (mvT hZ (hw _ (List.mem_of_getElem? (i := 18) rfl))) (mvT hZ (hw _ (List.mem_of_getElem? (i := 19) rfl))) (notFace_of_selects (args := #[]) (mvT hZ (hw _ (List.mem_of_getElem? (i := 21) rfl)))) (mvT hZ (hw _ (List.mem_of_getElem? (i := 21) rfl))) (mvT hZ (hw _ (List.mem_of_getElem? (i := 20) rfl))) (by decide) (backOf (W := 0) (rm4y l Z a0 hw [] b85 (q2 - (1 : Int64)) q1 q2 h87 n0 Z0 F_b85_size F_b85_modified hc89) hZ (hw _ (List.mem_of_getElem? (i := 22) rfl)) (hw _ (List.mem_of_getElem? (i := 2) rfl)) (by decide) (by decide)) q90a q90c (g := (mkF m 64 #[.val (.long q1), .second, .val (.long q2), .second, .val (.long q3), .second, .val (.int p4), .val (.long (q2 - (1 : Int64))), .second, .val (.int (p4 &&& (3 : Int32))), .val (.ref b85), .unset, .unset, .unset] [(.long (q2 - (1 : Int64))), (.ref b85)])) rfl (by rw [hml]; rfl) (Steps.refl _) (argsL := [(.long (q2 - (1 : Int64)))]) (rest := []) (lenOf pd_2 rfl) rfl (by show 2 * 0 + _ ≤ _; exact Nat.le_of_eq rfl) (hb hby at_64) (fun _ _ => ⟨rfl, e87, (by decide : 1 + 0 ≤ _), (by decide : 2 + 0 ≤ _)⟩)
          dsimp only [Pt.U, Pt.locs, Pt.cells, Pt.slots] at X90 l90 y90 z90 st90 hQ90
          subst l90 y90 z90
          obtain ⟨rfl, Nq90, Kq90⟩ := hQ90
          replace NF := Fr.app NF Nq90
          clear Nq90
          refine WP.tr st90 ?_
          clear st90
          replace Kq90 := Kq90.trans (rfl : h87 = h87)
          show WP p.tables e below _ T90 (mkF m 67 #[.val (.long q1), .second, .val (.long q2), .second, .val (.long q3), .second, .val (.int p4), .val (.long (q2 - (1 : Int64))), .second, .val (.int (p4 &&& (3 : Int32))), .val (.ref b85), .unset, .unset, .unset] [(.ref b85)])
          have bk91 : ∀ t, Steps p.tables e below (T90.setTop (mkF m 94 #[.val (.long q1), .second, .val (.long q2), .second, .val (.long q3), .second, .val (.int p4), .val (.long (q2 - (1 : Int64))), .second, .val (.int (p4 &&& (3 : Int32))), .val (.ref b85), .val (.ref b85), .val (.long q2), .second] [(.ref b85)])) t → Steps p.tables e below (T90.setTop (mkF m 67 #[.val (.long q1), .second, .val (.long q2), .second, .val (.long q3), .second, .val (.int p4), .val (.long (q2 - (1 : Int64))), .second, .val (.int (p4 &&& (3 : Int32))), .val (.ref b85), .unset, .unset, .unset] [(.ref b85)])) t := fun t k => by
            refine XS.astore X90.here hx rfl (hb hby at_67) rfl rfl (l' := #[.val (.long q1), .second, .val (.long q2), .second, .val (.long q3), .second, .val (.int p4), .val (.long (q2 - (1 : Int64))), .second, .val (.int (p4 &&& (3 : Int32))), .val (.ref b85), .val (.ref b85), .unset, .unset]) rfl ?_
            show Steps p.tables e below (T90.setTop (mkF m 69 #[.val (.long q1), .second, .val (.long q2), .second, .val (.long q3), .second, .val (.int p4), .val (.long (q2 - (1 : Int64))), .second, .val (.int (p4 &&& (3 : Int32))), .val (.ref b85), .val (.ref b85), .unset, .unset] [])) t
            refine XS.aload X90.here hx rfl (hb hby at_69) rfl rfl ?_
            show Steps p.tables e below (T90.setTop (mkF m 71 #[.val (.long q1), .second, .val (.long q2), .second, .val (.long q3), .second, .val (.int p4), .val (.long (q2 - (1 : Int64))), .second, .val (.int (p4 &&& (3 : Int32))), .val (.ref b85), .val (.ref b85), .unset, .unset] [(.ref b85)])) t
            refine XS.ifnonnullYes X90.here hx rfl (pc0 := 71) (pc' := 76) rfl (hb hby at_71) rfl (by decide) (by decide) ?_
            show Steps p.tables e below (T90.setTop (mkF m 76 #[.val (.long q1), .second, .val (.long q2), .second, .val (.long q3), .second, .val (.int p4), .val (.long (q2 - (1 : Int64))), .second, .val (.int (p4 &&& (3 : Int32))), .val (.ref b85), .val (.ref b85), .unset, .unset] [])) t
            refine XS.lloadN X90.here hx rfl (hb hby at_76) rfl ?_
            show Steps p.tables e below (T90.setTop (mkF m 77 #[.val (.long q1), .second, .val (.long q2), .second, .val (.long q3), .second, .val (.int p4), .val (.long (q2 - (1 : Int64))), .second, .val (.int (p4 &&& (3 : Int32))), .val (.ref b85), .val (.ref b85), .unset, .unset] [(.long q2)])) t
            refine XS.lload X90.here hx rfl (hb hby at_77) rfl ?_
            show Steps p.tables e below (T90.setTop (mkF m 79 #[.val (.long q1), .second, .val (.long q2), .second, .val (.long q3), .second, .val (.int p4), .val (.long (q2 - (1 : Int64))), .second, .val (.int (p4 &&& (3 : Int32))), .val (.ref b85), .val (.ref b85), .unset, .unset] [(.long (q2 - (1 : Int64))), (.long q2)])) t
            refine XS.lcmp X90.here hx rfl (hb hby at_79) rfl ?_
            show Steps p.tables e below (T90.setTop (mkF m 80 #[.val (.long q1), .second, .val (.long q2), .second, .val (.long q3), .second, .val (.int p4), .val (.long (q2 - (1 : Int64))), .second, .val (.int (p4 &&& (3 : Int32))), .val (.ref b85), .val (.ref b85), .unset, .unset] [(.int (lcmpW q2 (q2 - (1 : Int64))))])) t
            refine XS.ifNo X90.here hx rfl (hb hby at_80) rfl ((if0 _ _).trans (tlt hc89).2.1) ?_
            show Steps p.tables e below (T90.setTop (mkF m 83 #[.val (.long q1), .second, .val (.long q2), .second, .val (.long q3), .second, .val (.int p4), .val (.long (q2 - (1 : Int64))), .second, .val (.int (p4 &&& (3 : Int32))), .val (.ref b85), .val (.ref b85), .unset, .unset] [])) t
            refine XS.lloadN X90.here hx rfl (hb hby at_83) rfl ?_
            show Steps p.tables e below (T90.setTop (mkF m 84 #[.val (.long q1), .second, .val (.long q2), .second, .val (.long q3), .second, .val (.int p4), .val (.long (q2 - (1 : Int64))), .second, .val (.int (p4 &&& (3 : Int32))), .val (.ref b85), .val (.ref b85), .unset, .unset] [(.long q2)])) t
            refine XS.goto X90.here hx rfl (pc0 := 84) (pc' := 90) rfl (hb hby at_84) (by decide) (by decide) ?_
            show Steps p.tables e below (T90.setTop (mkF m 90 #[.val (.long q1), .second, .val (.long q2), .second, .val (.long q3), .second, .val (.int p4), .val (.long (q2 - (1 : Int64))), .second, .val (.int (p4 &&& (3 : Int32))), .val (.ref b85), .val (.ref b85), .unset, .unset] [(.long q2)])) t
            refine XS.lstore X90.here hx rfl (hb hby at_90) rfl (l' := #[.val (.long q1), .second, .val (.long q2), .second, .val (.long q3), .second, .val (.int p4), .val (.long (q2 - (1 : Int64))), .second, .val (.int (p4 &&& (3 : Int32))), .val (.ref b85), .val (.ref b85), .val (.long q2), .second]) rfl ?_
            show Steps p.tables e below (T90.setTop (mkF m 92 #[.val (.long q1), .second, .val (.long q2), .second, .val (.long q3), .second, .val (.int p4), .val (.long (q2 - (1 : Int64))), .second, .val (.int (p4 &&& (3 : Int32))), .val (.ref b85), .val (.ref b85), .val (.long q2), .second] [])) t
            refine XS.aload X90.here hx rfl (hb hby at_92) rfl rfl ?_
            exact k
          refine WP.st bk91 ?_
          clear bk91
          obtain ⟨cq92, kq92, q92a, q92b, q92c⟩ := isOf hZ Kq90 E_b85
          obtain ⟨_, _, ⟨T92, L92, k92, n92⟩, -, X92, ⟨Lc92, hQ92, l92, y92, z92⟩, st92⟩ := X90.virtualBack hx (y := (⟨"com/example/deodar/deodar/workingcopy/FileState", "size", "()J"⟩ : MethodName)) (z := (⟨"com/example/deodar/deodar/workingcopy/FileState", "size", "()J"⟩ : MethodName)) hown (mvT hZ (hw _ (List.mem_of_getElem? (i := 23) rfl))) (mvT hZ (hw _ (List.mem_of_getElem? (i := 24) rfl))) (notFace_of_selects (args := #[]) (mvT hZ (hw _ (List.mem_of_getElem? (i := 26) rfl)))) (mvT hZ (hw _ (List.mem_of_getElem? (i := 26) rfl))) (mvT hZ (hw _ (List.mem_of_getElem? (i := 25) rfl))) (by decide) (backOf (W := 0) (rm5 l Z a0 hw [] b85 q1 h87 n0 Z0 F_b85_size) hZ (hw _ (List.mem_of_getElem? (i := 27) rfl)) (hw _ (List.mem_of_getElem? (i := 2) rfl)) (by decide) (by decide)) q92a q92c (g := (mkF m 94 #[.val (.long q1), .second, .val (.long q2), .second, .val (.long q3), .second, .val (.int p4), .val (.long (q2 - (1 : Int64))), .second, .val (.int (p4 &&& (3 : Int32))), .val (.ref b85), .val (.ref b85), .val (.long q2), .second] [(.ref b85)])) rfl (by rw [hml]; rfl) (Steps.refl _) (argsL := []) (rest := []) (lenOf pd_3 rfl) rfl (by show 2 * 0 + _ ≤ _; exact Nat.le_of_eq rfl) (hb hby at_94) (fun _ _ => ⟨rfl, Kq90, (by decide : 1 + 0 ≤ _), (by decide : 2 + 0 ≤ _)⟩)
          dsimp only [Pt.U, Pt.locs, Pt.cells, Pt.slots] at X92 l92 y92 z92 st92 hQ92
          subst l92 y92 z92
          obtain ⟨rfl, Nq92, Kq92⟩ := hQ92
          replace NF := Fr.app NF Nq92
          clear Nq92
          refine WP.tr st92 ?_
          clear st92
          replace Kq92 := Kq92.trans (rfl : h87 = h87)
          show WP p.tables e below _ T92 (mkF m 97 #[.val (.long q1), .second, .val (.long q2), .second, .val (.long q3), .second, .val (.int p4), .val (.long (q2 - (1 : Int64))), .second, .val (.int (p4 &&& (3 : Int32))), .val (.ref b85), .val (.ref b85), .val (.long q2), .second] [(.long q1)])
          have bk93 : ∀ t, Steps p.tables e below (T92.setTop (mkF m 104 #[.val (.long q1), .second, .val (.long q2), .second, .val (.long q3), .second, .val (.int p4), .val (.long (q2 - (1 : Int64))), .second, .val (.int (p4 &&& (3 : Int32))), .val (.ref b85), .val (.ref b85), .val (.long q2), .second] [(.ref b85)])) t → Steps p.tables e below (T92.setTop (mkF m 97 #[.val (.long q1), .second, .val (.long q2), .second, .val (.long q3), .second, .val (.int p4), .val (.long (q2 - (1 : Int64))), .second, .val (.int (p4 &&& (3 : Int32))), .val (.ref b85), .val (.ref b85), .val (.long q2), .second] [(.long q1)])) t := fun t k => by
            refine XS.lloadN X92.here hx rfl (hb hby at_97) rfl ?_
            show Steps p.tables e below (T92.setTop (mkF m 98 #[.val (.long q1), .second, .val (.long q2), .second, .val (.long q3), .second, .val (.int p4), .val (.long (q2 - (1 : Int64))), .second, .val (.int (p4 &&& (3 : Int32))), .val (.ref b85), .val (.ref b85), .val (.long q2), .second] [(.long q1), (.long q1)])) t
            refine XS.lcmp X92.here hx rfl (hb hby at_98) rfl ?_
            show Steps p.tables e below (T92.setTop (mkF m 99 #[.val (.long q1), .second, .val (.long q2), .second, .val (.long q3), .second, .val (.int p4), .val (.long (q2 - (1 : Int64))), .second, .val (.int (p4 &&& (3 : Int32))), .val (.ref b85), .val (.ref b85), .val (.long q2), .second] [(.int (lcmpW q1 q1))])) t
            refine XS.ifNo X92.here hx rfl (hb hby at_99) rfl ((if0 _ _).trans (teq ((lw_eq _ _).2 rfl)).2) ?_
            show Steps p.tables e below (T92.setTop (mkF m 102 #[.val (.long q1), .second, .val (.long q2), .second, .val (.long q3), .second, .val (.int p4), .val (.long (q2 - (1 : Int64))), .second, .val (.int (p4 &&& (3 : Int32))), .val (.ref b85), .val (.ref b85), .val (.long q2), .second] [])) t
            refine XS.aload X92.here hx rfl (hb hby at_102) rfl rfl ?_
            exact k
          refine WP.st bk93 ?_
          clear bk93
          obtain ⟨cq94, kq94, q94a, q94b, q94c⟩ := isOf hZ Kq92 E_b85
          obtain ⟨_, _, ⟨T94, L94, k94, n94⟩, -, X94, ⟨Lc94, hQ94, l94, y94, z94⟩, st94⟩ := X92.virtualBack hx (y := (⟨"com/example/deodar/deodar/workingcopy/FileState", "modified", "()J"⟩ : MethodName)) (z := (⟨"com/example/deodar/deodar/workingcopy/FileState", "modified", "()J"⟩ : MethodName)) hown (mvT hZ (hw _ (List.mem_of_getElem? (i := 28) rfl))) (mvT hZ (hw _ (List.mem_of_getElem? (i := 29) rfl))) (notFace_of_selects (args := #[]) (mvT hZ (hw _ (List.mem_of_getElem? (i := 31) rfl)))) (mvT hZ (hw _ (List.mem_of_getElem? (i := 31) rfl))) (mvT hZ (hw _ (List.mem_of_getElem? (i := 30) rfl))) (by decide) (backOf (W := 0) (rm6 l Z a0 hw [] b85 q2 h87 n0 Z0 F_b85_modified) hZ (hw _ (List.mem_of_getElem? (i := 32) rfl)) (hw _ (List.mem_of_getElem? (i := 2) rfl)) (by decide) (by decide)) q94a q94c (g := (mkF m 104 #[.val (.long q1), .second, .val (.long q2), .second, .val (.long q3), .second, .val (.int p4), .val (.long (q2 - (1 : Int64))), .second, .val (.int (p4 &&& (3 : Int32))), .val (.ref b85), .val (.ref b85), .val (.long q2), .second] [(.ref b85)])) rfl (by rw [hml]; rfl) (Steps.refl _) (argsL := []) (rest := []) (lenOf pd_3 rfl) rfl (by show 2 * 0 + _ ≤ _; exact Nat.le_of_eq rfl) (hb hby at_104) (fun _ _ => ⟨rfl, Kq92, (by decide : 1 + 0 ≤ _), (by decide : 2 + 0 ≤ _)⟩)
          dsimp only [Pt.U, Pt.locs, Pt.cells, Pt.slots] at X94 l94 y94 z94 st94 hQ94
          subst l94 y94 z94
          obtain ⟨rfl, Nq94, Kq94⟩ := hQ94
          replace NF := Fr.app NF Nq94
          clear Nq94
          refine WP.tr st94 ?_
          clear st94
          replace Kq94 := Kq94.trans (rfl : h87 = h87)
          show WP p.tables e below _ T94 (mkF m 107 #[.val (.long q1), .second, .val (.long q2), .second, .val (.long q3), .second, .val (.int p4), .val (.long (q2 - (1 : Int64))), .second, .val (.int (p4 &&& (3 : Int32))), .val (.ref b85), .val (.ref b85), .val (.long q2), .second] [(.long q2)])
          have bk95 : ∀ t, Steps p.tables e below (T94.setTop (mkF m 118 #[.val (.long q1), .second, .val (.long q2), .second, .val (.long q3), .second, .val (.int p4), .val (.long (q2 - (1 : Int64))), .second, .val (.int (p4 &&& (3 : Int32))), .val (.ref b85), .val (.ref b85), .val (.long q2), .second] [(.int (1 : Int32))])) t → Steps p.tables e below (T94.setTop (mkF m 107 #[.val (.long q1), .second, .val (.long q2), .second, .val (.long q3), .second, .val (.int p4), .val (.long (q2 - (1 : Int64))), .second, .val (.int (p4 &&& (3 : Int32))), .val (.ref b85), .val (.ref b85), .val (.long q2), .second] [(.long q2)])) t := fun t k => by
            refine XS.lload X94.here hx rfl (hb hby at_107) rfl ?_
            show Steps p.tables e below (T94.setTop (mkF m 109 #[.val (.long q1), .second, .val (.long q2), .second, .val (.long q3), .second, .val (.int p4), .val (.long (q2 - (1 : Int64))), .second, .val (.int (p4 &&& (3 : Int32))), .val (.ref b85), .val (.ref b85), .val (.long q2), .second] [(.long q2), (.long q2)])) t
            refine XS.lcmp X94.here hx rfl (hb hby at_109) rfl ?_
            show Steps p.tables e below (T94.setTop (mkF m 110 #[.val (.long q1), .second, .val (.long q2), .second, .val (.long q3), .second, .val (.int p4), .val (.long (q2 - (1 : Int64))), .second, .val (.int (p4 &&& (3 : Int32))), .val (.ref b85), .val (.ref b85), .val (.long q2), .second] [(.int (lcmpW q2 q2))])) t
            refine XS.ifNo X94.here hx rfl (hb hby at_110) rfl ((if0 _ _).trans (teq ((lw_eq _ _).2 rfl)).2) ?_
            show Steps p.tables e below (T94.setTop (mkF m 113 #[.val (.long q1), .second, .val (.long q2), .second, .val (.long q3), .second, .val (.int p4), .val (.long (q2 - (1 : Int64))), .second, .val (.int (p4 &&& (3 : Int32))), .val (.ref b85), .val (.ref b85), .val (.long q2), .second] [])) t
            refine XS.iconst X94.here hx rfl (hb hby at_113) ?_
            show Steps p.tables e below (T94.setTop (mkF m 114 #[.val (.long q1), .second, .val (.long q2), .second, .val (.long q3), .second, .val (.int p4), .val (.long (q2 - (1 : Int64))), .second, .val (.int (p4 &&& (3 : Int32))), .val (.ref b85), .val (.ref b85), .val (.long q2), .second] [(.int (1 : Int32))])) t
            refine XS.goto X94.here hx rfl (pc0 := 114) (pc' := 118) rfl (hb hby at_114) (by decide) (by decide) ?_
            exact k
          refine WP.st bk95 ?_
          clear bk95
          subst hG
          obtain ⟨fs, hr, hrun, hended, hW, hsame⟩ := X94.leave (v := some (.int (1 : Int32))) (fun h => by rw [Bd.returns] at h; cases h)
          refine WP.fin ⟨_, _, ?_, hrun, hended, _, _, rfl, ?_, ⟨_, rfl⟩, hW, hsame.mono (by decide) (by decide)⟩
          · exact retN X94 hx (t := .boolean) Bd.returns (by simp) (hb hby at_118) hr
          · show Q0 Z q1 q2 q3 p4 h0 n0 _ T94.heap _
            rw [Kq94]
            exact ⟨rfl, NF⟩
        · skip
          obtain ⟨cq96, kq96, q96a, q96b, q96c⟩ := isOf hZ e87 E_b85
          obtain ⟨_, _, ⟨T96, L96, k96, n96⟩, -, X96, ⟨Lc96, hQ96, l96, y96, z96⟩, st96⟩ := X87.virtualBack hx (y := (⟨"com/example/deodar/deodar/workingcopy/FileState", "toRecord", "(J)Lcom/example/deodar/deodar/workingcopy/FileState;"⟩ : MethodName)) (z := (⟨"com/example/deodar/deodar/workingcopy/FileState", "toRecord", "(J)Lcom/example/deodar/deodar/workingcopy/FileState;"⟩ : MethodName)) hown (mvT hZ (hw _ (List.mem_of_getElem? (i := 18) rfl))) (mvT hZ (hw _ (List.mem_of_getElem? (i := 19) rfl))) (notFace_of_selects (args := #[]) (mvT hZ (hw _ (List.mem_of_getElem? (i := 21) rfl)))) (mvT hZ (hw _ (List.mem_of_getElem? (i := 21) rfl))) (mvT hZ (hw _ (List.mem_of_getElem? (i := 20) rfl))) (by decide) (backOf (W := 0) (rm4n l Z a0 hw [] b85 (q2 - (1 : Int64)) q1 q2 h87 n0 Z0 F_b85_size F_b85_modified hc89) hZ (hw _ (List.mem_of_getElem? (i := 22) rfl)) (hw _ (List.mem_of_getElem? (i := 2) rfl)) (by decide) (by decide)) q96a q96c (g := (mkF m 64 #[.val (.long q1), .second, .val (.long q2), .second, .val (.long q3), .second, .val (.int p4), .val (.long (q2 - (1 : Int64))), .second, .val (.int (p4 &&& (3 : Int32))), .val (.ref b85), .unset, .unset, .unset] [(.long (q2 - (1 : Int64))), (.ref b85)])) rfl (by rw [hml]; rfl) (Steps.refl _) (argsL := [(.long (q2 - (1 : Int64)))]) (rest := []) (lenOf pd_2 rfl) rfl (by show 2 * 0 + _ ≤ _; exact Nat.le_of_eq rfl) (hb hby at_64) (fun _ _ => ⟨rfl, e87, (by decide : 1 + 1 ≤ _), (by decide : 2 + 2 ≤ _)⟩)
          dsimp only [Pt.U, Pt.locs, Pt.cells, Pt.slots] at X96 l96 y96 z96 st96 hQ96
          subst l96 y96 z96
          obtain ⟨r_96, rfl, Nq96, Kq96, szq_r_96, nE96_r_96, nF96_r_96_size, nF96_r_96_modified⟩ := hQ96
          replace NF := Fr.app NF Nq96
          clear Nq96
          refine WP.tr st96 ?_
          clear st96
          obtain ⟨h96, e96⟩ : ∃ h, T96.heap = h := ⟨_, rfl⟩
          rw [e96] at Kq96 nE96_r_96 nF96_r_96_size nF96_r_96_modified
          have ne_b85_r_96 : b85 ≠ r_96 := Nat.ne_of_lt (Nat.lt_of_lt_of_le E_b85.lt szq_r_96)
          replace E_b85 := E_b85.keep Kq96
          replace F_b85_size := F_b85_size.keep Kq96 (by exact nin0)
          replace F_b85_modified := F_b85_modified.keep Kq96 (by exact nin0)
          replace Z0 := Nat.le_trans Z0 Kq96.1
          clear Kq96
          have E_r_96 := nE96_r_96
          clear nE96_r_96
          have F_r_96_size := nF96_r_96_size
          clear nF96_r_96_size
          have F_r_96_modified := nF96_r_96_modified
          clear nF96_r_96_modified
          show WP p.tables e below _ T96 (mkF m 67 #[.val (.long q1), .second, .val (.long q2), .second, .val (.long q3), .second, .val (.int p4), .val (.long (q2 - (1 : Int64))), .second, .val (.int (p4 &&& (3 : Int32))), .val (.ref b85), .unset, .unset, .unset] [(.ref r_96)])
          have bk97 : ∀ t, Steps p.tables e below (T96.setTop (mkF m 94 #[.val (.long q1), .second, .val (.long q2), .second, .val (.long q3), .second, .val (.int p4), .val (.long (q2 - (1 : Int64))), .second, .val (.int (p4 &&& (3 : Int32))), .val (.ref b85), .val (.ref r_96), .val (.long (-9223372036854775808 : Int64)), .second] [(.ref r_96)])) t → Steps p.tables e below (T96.setTop (mkF m 67 #[.val (.long q1), .second, .val (.long q2), .second, .val (.long q3), .second, .val (.int p4), .val (.long (q2 - (1 : Int64))), .second, .val (.int (p4 &&& (3 : Int32))), .val (.ref b85), .unset, .unset, .unset] [(.ref r_96)])) t := fun t k => by
            refine XS.astore X96.here hx rfl (hb hby at_67) rfl rfl (l' := #[.val (.long q1), .second, .val (.long q2), .second, .val (.long q3), .second, .val (.int p4), .val (.long (q2 - (1 : Int64))), .second, .val (.int (p4 &&& (3 : Int32))), .val (.ref b85), .val (.ref r_96), .unset, .unset]) rfl ?_
            show Steps p.tables e below (T96.setTop (mkF m 69 #[.val (.long q1), .second, .val (.long q2), .second, .val (.long q3), .second, .val (.int p4), .val (.long (q2 - (1 : Int64))), .second, .val (.int (p4 &&& (3 : Int32))), .val (.ref b85), .val (.ref r_96), .unset, .unset] [])) t
            refine XS.aload X96.here hx rfl (hb hby at_69) rfl rfl ?_
            show Steps p.tables e below (T96.setTop (mkF m 71 #[.val (.long q1), .second, .val (.long q2), .second, .val (.long q3), .second, .val (.int p4), .val (.long (q2 - (1 : Int64))), .second, .val (.int (p4 &&& (3 : Int32))), .val (.ref b85), .val (.ref r_96), .unset, .unset] [(.ref r_96)])) t
            refine XS.ifnonnullYes X96.here hx rfl (pc0 := 71) (pc' := 76) rfl (hb hby at_71) rfl (by decide) (by decide) ?_
            show Steps p.tables e below (T96.setTop (mkF m 76 #[.val (.long q1), .second, .val (.long q2), .second, .val (.long q3), .second, .val (.int p4), .val (.long (q2 - (1 : Int64))), .second, .val (.int (p4 &&& (3 : Int32))), .val (.ref b85), .val (.ref r_96), .unset, .unset] [])) t
            refine XS.lloadN X96.here hx rfl (hb hby at_76) rfl ?_
            show Steps p.tables e below (T96.setTop (mkF m 77 #[.val (.long q1), .second, .val (.long q2), .second, .val (.long q3), .second, .val (.int p4), .val (.long (q2 - (1 : Int64))), .second, .val (.int (p4 &&& (3 : Int32))), .val (.ref b85), .val (.ref r_96), .unset, .unset] [(.long q2)])) t
            refine XS.lload X96.here hx rfl (hb hby at_77) rfl ?_
            show Steps p.tables e below (T96.setTop (mkF m 79 #[.val (.long q1), .second, .val (.long q2), .second, .val (.long q3), .second, .val (.int p4), .val (.long (q2 - (1 : Int64))), .second, .val (.int (p4 &&& (3 : Int32))), .val (.ref b85), .val (.ref r_96), .unset, .unset] [(.long (q2 - (1 : Int64))), (.long q2)])) t
            refine XS.lcmp X96.here hx rfl (hb hby at_79) rfl ?_
            show Steps p.tables e below (T96.setTop (mkF m 80 #[.val (.long q1), .second, .val (.long q2), .second, .val (.long q3), .second, .val (.int p4), .val (.long (q2 - (1 : Int64))), .second, .val (.int (p4 &&& (3 : Int32))), .val (.ref b85), .val (.ref r_96), .unset, .unset] [(.int (lcmpW q2 (q2 - (1 : Int64))))])) t
            refine XS.ifYes X96.here hx rfl (pc0 := 80) (pc' := 87) rfl (hb hby at_80) rfl ((if0 _ _).trans (flt hc89).2.1) (by decide) (by decide) ?_
            show Steps p.tables e below (T96.setTop (mkF m 87 #[.val (.long q1), .second, .val (.long q2), .second, .val (.long q3), .second, .val (.int p4), .val (.long (q2 - (1 : Int64))), .second, .val (.int (p4 &&& (3 : Int32))), .val (.ref b85), .val (.ref r_96), .unset, .unset] [])) t
            refine X96.ldc2Long hx hown (mvT hZ (hw _ (List.mem_of_getElem? (i := 36) rfl))) (g := (mkF m 87 #[.val (.long q1), .second, .val (.long q2), .second, .val (.long q3), .second, .val (.int p4), .val (.long (q2 - (1 : Int64))), .second, .val (.int (p4 &&& (3 : Int32))), .val (.ref b85), .val (.ref r_96), .unset, .unset] [])) rfl (hb hby at_87) _ ?_
            show Steps p.tables e below (T96.setTop (mkF m 90 #[.val (.long q1), .second, .val (.long q2), .second, .val (.long q3), .second, .val (.int p4), .val (.long (q2 - (1 : Int64))), .second, .val (.int (p4 &&& (3 : Int32))), .val (.ref b85), .val (.ref r_96), .unset, .unset] [(.long (-9223372036854775808 : Int64))])) t
            refine XS.lstore X96.here hx rfl (hb hby at_90) rfl (l' := #[.val (.long q1), .second, .val (.long q2), .second, .val (.long q3), .second, .val (.int p4), .val (.long (q2 - (1 : Int64))), .second, .val (.int (p4 &&& (3 : Int32))), .val (.ref b85), .val (.ref r_96), .val (.long (-9223372036854775808 : Int64)), .second]) rfl ?_
            show Steps p.tables e below (T96.setTop (mkF m 92 #[.val (.long q1), .second, .val (.long q2), .second, .val (.long q3), .second, .val (.int p4), .val (.long (q2 - (1 : Int64))), .second, .val (.int (p4 &&& (3 : Int32))), .val (.ref b85), .val (.ref r_96), .val (.long (-9223372036854775808 : Int64)), .second] [])) t
            refine XS.aload X96.here hx rfl (hb hby at_92) rfl rfl ?_
            exact k
          refine WP.st bk97 ?_
          clear bk97
          obtain ⟨cq98, kq98, q98a, q98b, q98c⟩ := isOf hZ e96 E_r_96
          obtain ⟨_, _, ⟨T98, L98, k98, n98⟩, -, X98, ⟨Lc98, hQ98, l98, y98, z98⟩, st98⟩ := X96.virtualBack hx (y := (⟨"com/example/deodar/deodar/workingcopy/FileState", "size", "()J"⟩ : MethodName)) (z := (⟨"com/example/deodar/deodar/workingcopy/FileState", "size", "()J"⟩ : MethodName)) hown (mvT hZ (hw _ (List.mem_of_getElem? (i := 23) rfl))) (mvT hZ (hw _ (List.mem_of_getElem? (i := 24) rfl))) (notFace_of_selects (args := #[]) (mvT hZ (hw _ (List.mem_of_getElem? (i := 26) rfl)))) (mvT hZ (hw _ (List.mem_of_getElem? (i := 26) rfl))) (mvT hZ (hw _ (List.mem_of_getElem? (i := 25) rfl))) (by decide) (backOf (W := 0) (rm5 l Z a0 hw [] r_96 q1 h96 n0 Z0 F_r_96_size) hZ (hw _ (List.mem_of_getElem? (i := 27) rfl)) (hw _ (List.mem_of_getElem? (i := 2) rfl)) (by decide) (by decide)) q98a q98c (g := (mkF m 94 #[.val (.long q1), .second, .val (.long q2), .second, .val (.long q3), .second, .val (.int p4), .val (.long (q2 - (1 : Int64))), .second, .val (.int (p4 &&& (3 : Int32))), .val (.ref b85), .val (.ref r_96), .val (.long (-9223372036854775808 : Int64)), .second] [(.ref r_96)])) rfl (by rw [hml]; rfl) (Steps.refl _) (argsL := []) (rest := []) (lenOf pd_3 rfl) rfl (by show 2 * 0 + _ ≤ _; exact Nat.le_of_eq rfl) (hb hby at_94) (fun _ _ => ⟨rfl, e96, (by decide : 2 + 0 ≤ _), (by decide : 4 + 0 ≤ _)⟩)
          dsimp only [Pt.U, Pt.locs, Pt.cells, Pt.slots] at X98 l98 y98 z98 st98 hQ98
          subst l98 y98 z98
          obtain ⟨rfl, Nq98, Kq98⟩ := hQ98
          replace NF := Fr.app NF Nq98
          clear Nq98
          refine WP.tr st98 ?_
          clear st98
          replace Kq98 := Kq98.trans (rfl : h96 = h96)
          show WP p.tables e below _ T98 (mkF m 97 #[.val (.long q1), .second, .val (.long q2), .second, .val (.long q3), .second, .val (.int p4), .val (.long (q2 - (1 : Int64))), .second, .val (.int (p4 &&& (3 : Int32))), .val (.ref b85), .val (.ref r_96), .val (.long (-9223372036854775808 : Int64)), .second] [(.long q1)])
          have bk99 : ∀ t, Steps p.tables e below (T98.setTop (mkF m 104 #[.val (.long q1), .second, .val (.long q2), .second, .val (.long q3), .second, .val (.int p4), .val (.long (q2 - (1 : Int64))), .second, .val (.int (p4 &&& (3 : Int32))), .val (.ref b85), .val (.ref r_96), .val (.long (-9223372036854775808 : Int64)), .second] [(.ref r_96)])) t → Steps p.tables e below (T98.setTop (mkF m 97 #[.val (.long q1), .second, .val (.long q2), .second, .val (.long q3), .second, .val (.int p4), .val (.long (q2 - (1 : Int64))), .second, .val (.int (p4 &&& (3 : Int32))), .val (.ref b85), .val (.ref r_96), .val (.long (-9223372036854775808 : Int64)), .second] [(.long q1)])) t := fun t k => by
            refine XS.lloadN X98.here hx rfl (hb hby at_97) rfl ?_
            show Steps p.tables e below (T98.setTop (mkF m 98 #[.val (.long q1), .second, .val (.long q2), .second, .val (.long q3), .second, .val (.int p4), .val (.long (q2 - (1 : Int64))), .second, .val (.int (p4 &&& (3 : Int32))), .val (.ref b85), .val (.ref r_96), .val (.long (-9223372036854775808 : Int64)), .second] [(.long q1), (.long q1)])) t
            refine XS.lcmp X98.here hx rfl (hb hby at_98) rfl ?_
            show Steps p.tables e below (T98.setTop (mkF m 99 #[.val (.long q1), .second, .val (.long q2), .second, .val (.long q3), .second, .val (.int p4), .val (.long (q2 - (1 : Int64))), .second, .val (.int (p4 &&& (3 : Int32))), .val (.ref b85), .val (.ref r_96), .val (.long (-9223372036854775808 : Int64)), .second] [(.int (lcmpW q1 q1))])) t
            refine XS.ifNo X98.here hx rfl (hb hby at_99) rfl ((if0 _ _).trans (teq ((lw_eq _ _).2 rfl)).2) ?_
            show Steps p.tables e below (T98.setTop (mkF m 102 #[.val (.long q1), .second, .val (.long q2), .second, .val (.long q3), .second, .val (.int p4), .val (.long (q2 - (1 : Int64))), .second, .val (.int (p4 &&& (3 : Int32))), .val (.ref b85), .val (.ref r_96), .val (.long (-9223372036854775808 : Int64)), .second] [])) t
            refine XS.aload X98.here hx rfl (hb hby at_102) rfl rfl ?_
            exact k
          refine WP.st bk99 ?_
          clear bk99
          obtain ⟨cq100, kq100, q100a, q100b, q100c⟩ := isOf hZ Kq98 E_r_96
          obtain ⟨_, _, ⟨T100, L100, k100, n100⟩, -, X100, ⟨Lc100, hQ100, l100, y100, z100⟩, st100⟩ := X98.virtualBack hx (y := (⟨"com/example/deodar/deodar/workingcopy/FileState", "modified", "()J"⟩ : MethodName)) (z := (⟨"com/example/deodar/deodar/workingcopy/FileState", "modified", "()J"⟩ : MethodName)) hown (mvT hZ (hw _ (List.mem_of_getElem? (i := 28) rfl))) (mvT hZ (hw _ (List.mem_of_getElem? (i := 29) rfl))) (notFace_of_selects (args := #[]) (mvT hZ (hw _ (List.mem_of_getElem? (i := 31) rfl)))) (mvT hZ (hw _ (List.mem_of_getElem? (i := 31) rfl))) (mvT hZ (hw _ (List.mem_of_getElem? (i := 30) rfl))) (by decide) (backOf (W := 0) (rm6 l Z a0 hw [] r_96 (-9223372036854775808 : Int64) h96 n0 Z0 F_r_96_modified) hZ (hw _ (List.mem_of_getElem? (i := 32) rfl)) (hw _ (List.mem_of_getElem? (i := 2) rfl)) (by decide) (by decide)) q100a q100c (g := (mkF m 104 #[.val (.long q1), .second, .val (.long q2), .second, .val (.long q3), .second, .val (.int p4), .val (.long (q2 - (1 : Int64))), .second, .val (.int (p4 &&& (3 : Int32))), .val (.ref b85), .val (.ref r_96), .val (.long (-9223372036854775808 : Int64)), .second] [(.ref r_96)])) rfl (by rw [hml]; rfl) (Steps.refl _) (argsL := []) (rest := []) (lenOf pd_3 rfl) rfl (by show 2 * 0 + _ ≤ _; exact Nat.le_of_eq rfl) (hb hby at_104) (fun _ _ => ⟨rfl, Kq98, (by decide : 2 + 0 ≤ _), (by decide : 4 + 0 ≤ _)⟩)
          dsimp only [Pt.U, Pt.locs, Pt.cells, Pt.slots] at X100 l100 y100 z100 st100 hQ100
          subst l100 y100 z100
          obtain ⟨rfl, Nq100, Kq100⟩ := hQ100
          replace NF := Fr.app NF Nq100
          clear Nq100
          refine WP.tr st100 ?_
          clear st100
          replace Kq100 := Kq100.trans (rfl : h96 = h96)
          show WP p.tables e below _ T100 (mkF m 107 #[.val (.long q1), .second, .val (.long q2), .second, .val (.long q3), .second, .val (.int p4), .val (.long (q2 - (1 : Int64))), .second, .val (.int (p4 &&& (3 : Int32))), .val (.ref b85), .val (.ref r_96), .val (.long (-9223372036854775808 : Int64)), .second] [(.long (-9223372036854775808 : Int64))])
          have bk101 : ∀ t, Steps p.tables e below (T100.setTop (mkF m 118 #[.val (.long q1), .second, .val (.long q2), .second, .val (.long q3), .second, .val (.int p4), .val (.long (q2 - (1 : Int64))), .second, .val (.int (p4 &&& (3 : Int32))), .val (.ref b85), .val (.ref r_96), .val (.long (-9223372036854775808 : Int64)), .second] [(.int (1 : Int32))])) t → Steps p.tables e below (T100.setTop (mkF m 107 #[.val (.long q1), .second, .val (.long q2), .second, .val (.long q3), .second, .val (.int p4), .val (.long (q2 - (1 : Int64))), .second, .val (.int (p4 &&& (3 : Int32))), .val (.ref b85), .val (.ref r_96), .val (.long (-9223372036854775808 : Int64)), .second] [(.long (-9223372036854775808 : Int64))])) t := fun t k => by
            refine XS.lload X100.here hx rfl (hb hby at_107) rfl ?_
            show Steps p.tables e below (T100.setTop (mkF m 109 #[.val (.long q1), .second, .val (.long q2), .second, .val (.long q3), .second, .val (.int p4), .val (.long (q2 - (1 : Int64))), .second, .val (.int (p4 &&& (3 : Int32))), .val (.ref b85), .val (.ref r_96), .val (.long (-9223372036854775808 : Int64)), .second] [(.long (-9223372036854775808 : Int64)), (.long (-9223372036854775808 : Int64))])) t
            refine XS.lcmp X100.here hx rfl (hb hby at_109) rfl ?_
            show Steps p.tables e below (T100.setTop (mkF m 110 #[.val (.long q1), .second, .val (.long q2), .second, .val (.long q3), .second, .val (.int p4), .val (.long (q2 - (1 : Int64))), .second, .val (.int (p4 &&& (3 : Int32))), .val (.ref b85), .val (.ref r_96), .val (.long (-9223372036854775808 : Int64)), .second] [(.int (lcmpW (-9223372036854775808 : Int64) (-9223372036854775808 : Int64)))])) t
            refine XS.ifNo X100.here hx rfl (hb hby at_110) rfl ((if0 _ _).trans (teq ((lw_eq _ _).2 rfl)).2) ?_
            show Steps p.tables e below (T100.setTop (mkF m 113 #[.val (.long q1), .second, .val (.long q2), .second, .val (.long q3), .second, .val (.int p4), .val (.long (q2 - (1 : Int64))), .second, .val (.int (p4 &&& (3 : Int32))), .val (.ref b85), .val (.ref r_96), .val (.long (-9223372036854775808 : Int64)), .second] [])) t
            refine XS.iconst X100.here hx rfl (hb hby at_113) ?_
            show Steps p.tables e below (T100.setTop (mkF m 114 #[.val (.long q1), .second, .val (.long q2), .second, .val (.long q3), .second, .val (.int p4), .val (.long (q2 - (1 : Int64))), .second, .val (.int (p4 &&& (3 : Int32))), .val (.ref b85), .val (.ref r_96), .val (.long (-9223372036854775808 : Int64)), .second] [(.int (1 : Int32))])) t
            refine XS.goto X100.here hx rfl (pc0 := 114) (pc' := 118) rfl (hb hby at_114) (by decide) (by decide) ?_
            exact k
          refine WP.st bk101 ?_
          clear bk101
          subst hG
          obtain ⟨fs, hr, hrun, hended, hW, hsame⟩ := X100.leave (v := some (.int (1 : Int32))) (fun h => by rw [Bd.returns] at h; cases h)
          refine WP.fin ⟨_, _, ?_, hrun, hended, _, _, rfl, ?_, ⟨_, rfl⟩, hW, hsame.mono (by decide) (by decide)⟩
          · exact retN X100 hx (t := .boolean) Bd.returns (by simp) (hb hby at_118) hr
          · show Q0 Z q1 q2 q3 p4 h0 n0 _ T100.heap _
            rw [Kq100]
            exact ⟨rfl, NF⟩
set_option maxRecDepth 65536 in
set_option maxHeartbeats 40000000 in
theorem comes_1 {Post : Tables → Env → Array Value → State → Outcome → State → Prop} (hpost : ∀ tb e args s v u, (limb_1_1.after args s (.returned v) u = true ∧ limb_1_2.after args s (.returned v) u = true ∧ True) → FrameEnd s (.returned v) u (Jvm.fieldLocs frame_1_writes args s ++ Jvm.arrayLocs frame_1_arrays args s ++ Jvm.staticLocs frame_1_statics s) 16 128 → Post tb e args s (.returned v) u) :
    ArmFor flags0 classFile x code maxLocals ret World_1 tables_1 room_1 Calls_1 rest_1 Pre_1 Post := by
  intro l hfl _ _ p e ha hc hk s m args below hf hA hF happ hP
  obtain ⟨hcalls, hrest, hpre⟩ := hP
  obtain ⟨-, -, -, hnamed, -, -, -, hat⟩ := (Spec.applies_iff hf).mp happ
  obtain ⟨hg, hn⟩ := and_e (Cond.before_iff.mp (show (Jvm.Cond.and given_1 narrow_1).before args s = true from hpre))
  obtain ⟨gg1, gg2⟩ := and_e hg
  obtain ⟨gg3, gg4⟩ := and_e gg2
  obtain ⟨gg5, gg6⟩ := and_e gg4
  obtain ⟨gg7, gg8⟩ := and_e gg6
  obtain ⟨w0, w1, w2, w3, rfl⟩ : ∃ w0 w1 w2 w3 : Value, args = #[w0, w1, w2, w3] := by
    have hs : args.size = 4 := by simpa [Cond.value, given_1] using gg1
    obtain ⟨L⟩ := args
    match L, hs with
    | [w0, w1, w2, w3], _ => exact ⟨w0, w1, w2, w3, rfl⟩
  have hw := fun d (hd : d ∈ tables_1) => atoms_spec (ws := Jvm.Cond.code x code maxLocals ret :: tables_1) hat d (List.mem_cons_of_mem _ hd)
  have hfit : Fit s := fun {y c} hc i hi => by
    obtain ⟨ha, rfl⟩ := Array.getElem?_eq_some_iff.mp hc
    have q := List.all_eq_true.mp ((Array.all_eq_true_iff_forall_mem.mp hF) _ (Array.getElem_mem ha)) i (List.mem_range.mpr hi)
    simpa [Array.getElem?_eq_getElem hi] using q
  obtain ⟨i0, ei0⟩ := isL_v gg3
  obtain rfl : w0 = (.long i0) := Option.some.inj ei0
  obtain ⟨i1, ei1⟩ := isL_v gg5
  obtain rfl : w1 = (.long i1) := Option.some.inj ei1
  obtain ⟨i2, ei2⟩ := isL_v gg7
  obtain rfl : w2 = (.long i2) := Option.some.inj ei2
  obtain ⟨i3, ei3⟩ := is_v gg8
  obtain rfl : w3 = (.int i3) := Option.some.inj ei3
  obtain ⟨n, o, h1, h2, h3, _, L, rfl, ⟨rfl, N⟩, hq⟩ := rm0 l s _ hw tables_1 i0 i1 i2 i3 s.heap s.heap.size (Nat.le_refl _)  p e ha hc hk s m _ below hf ((Spec.applies_iff_loose hf).mp happ).1 ⟨rfl, State.Warmed39.refl s, rfl⟩ trivial
  refine ⟨n, _, h1, h2, h3, hpost _ _ _ _ _ _ ⟨Cond.after_iff.mpr rfl, Cond.after_iff.mpr (eq_i res_at (Term.int_eval (1)) rfl), trivial⟩ ⟨hq.1, hq.2.1, (hq.2.2.sift fun y hy => Or.inr (N y hy)).mono (by decide) (by decide)⟩⟩
theorem main_1_1 : Claimed_1_1 := comes_1 fun _ _ _ _ _ _ h hF => ⟨h.1, hF⟩
theorem main_1_2 : Claimed_1_2 := comes_1 fun _ _ _ _ _ _ h hF => ⟨h.2.1, hF⟩
end Jvm.Pilot.@@N@@
namespace Jvm.Pilot.@@N@@
open Jvm Jvm.ClassFile Sem Op Lib Jvm.Free Jvm.Stand Jvm.Pilot.@@N@@.Jvm.D
/-! MADE BY PROGRAM (witnessworld.py) out of the Statement's table words and the real class files: 10 classes; the members and pool entries that the words name. The judged class is class 1, her method 1. -/
namespace start1
open Jvm.ClassFile
def u (s : String) : CpInfo := .utf8 (stringToUtf16 s)
/-- a pool by its gaps: so many unusable entries, then the entry; so many at the end -/
def gap : Nat → List CpInfo → List CpInfo
  | 0, r => r
  | n + 1, r => .unusable :: gap n r
def poolList (es : List (Nat × CpInfo)) (last : Nat) : List CpInfo := es.foldr (fun e r => gap e.1 (e.2 :: r)) (gap last [])
def pool (es : List (Nat × CpInfo)) (last : Nat) : Array CpInfo := ⟨poolList es last⟩
def fileOf (pool : Array CpInfo) (this : Nat) (attrs : Array Attribute := #[]) (ms : Array MethodInfo := #[]) (fl : Nat := 33) (sup : Nat := 0) (ifs : Array Nat := #[]) (fds : Array FieldInfo := #[]) : ClassFile where
  minorVersion := 0
  majorVersion := 65
  constantPool := pool
  accessFlags := fl
  thisClass := this
  superClass := sup
  interfaces := ifs
  fields := fds
  methods := ms
  attributes := attrs
def plain (name : String) (sup : Option ClassId) : Class where
  name := name
  kind := .ordinary
  loader := none
  accessFlags := 33
  super := sup
  interfaces := #[]
  cf := none
  fields := #[]
  methods := #[]
  instanceTypes := #[]
  staticTypes := #[]
  resolved := #[]
  callSites := []
  init := .initialized
  statics := none
  mirror := none

def pool0 : Array CpInfo := pool [(5, u "<init>"), (0, u "()V"), (1, .class_ 10), (1, u "java/lang/Object")] 113

def k0c0 : Code := { maxStack := 0, maxLocals := 1, code := object_method_1_code, exceptionTable := #[], attributes := #[] }
def k0m0 : Method := { name := "<init>", desc := "()V", sig := { parameters := [], returnType := none }, accessFlags := 1, code := some k0c0 }
/-- java/lang/Object -/
def k0 : Class := { plain "java/lang/Object" none with
  accessFlags := 33
  interfaces := #[]
  cf := some (fileOf pool0 8 #[] #[{ accessFlags := 1, nameIndex := 5, descriptorIndex := 6, attributes := #[] }] 33 0 #[] #[])
  fields := #[]
  methods := #[k0m0]
  instanceTypes := #[]
  staticTypes := #[]
  resolved := Array.replicate 124 none
  statics := none }

def pool1 : Array CpInfo := pool [(2, .class_ 4), (1, u "java/lang/Object"), (0, u "<init>"), (0, u "()V"), (0, .class_ 8), (0, u "com/example/deodar/deodar/workingcopy/FileState"), (0, .methodref 7 10), (0, .nameAndType 5 11), (0, u "(JJ)V"), (0, .methodref 7 13), (0, .nameAndType 14 15), (0, u "toRecord"), (0, u "(J)Lcom/example/deodar/deodar/workingcopy/FileState;"), (2, .long 9223372036854775808), (1, .methodref 7 21), (0, .nameAndType 22 23), (0, u "size"), (0, u "()J"), (0, .methodref 7 25), (0, .nameAndType 26 23), (0, u "modified"), (0, .class_ 28), (0, u "com/example/deodar/deodar/workingcopy/FileStateToRecordPinLaw"), (2, u "law"), (0, u "(JJJI)Z")] 3

def k1m0 : Method := { name := "<init>", desc := "()V", sig := { parameters := [], returnType := none }, accessFlags := 1, code := none }
def k1c1 : Code := { maxStack := 6, maxLocals := 14, code := code, exceptionTable := #[], attributes := #[] }
def k1m1 : Method := { name := "law", desc := "(JJJI)Z", sig := { parameters := [.long, .long, .long, .int], returnType := some .boolean }, accessFlags := 9, code := some k1c1 }
/-- com/example/deodar/deodar/workingcopy/FileStateToRecordPinLaw -/
def k1 : Class := { plain "com/example/deodar/deodar/workingcopy/FileStateToRecordPinLaw" (some 0) with
  accessFlags := 49
  interfaces := #[]
  cf := some (fileOf pool1 27 #[] #[{ accessFlags := 1, nameIndex := 5, descriptorIndex := 6, attributes := #[] }, { accessFlags := 9, nameIndex := 31, descriptorIndex := 32, attributes := #[] }] 49 2 #[] #[])
  fields := #[]
  methods := #[k1m0, k1m1]
  instanceTypes := #[]
  staticTypes := #[]
  resolved := Array.replicate 36 none
  statics := none }

def pool2 : Array CpInfo := pool [(1, .methodref 2 3), (0, .class_ 4), (0, .nameAndType 5 6), (0, u "java/lang/Object"), (0, u "<init>"), (0, u "()V"), (0, .class_ 8), (0, u "java/lang/Record")] 13

def k2c0 : Code := { maxStack := 1, maxLocals := 1, code := jdk_30_method_1_code, exceptionTable := #[], attributes := #[] }
def k2m0 : Method := { name := "<init>", desc := "()V", sig := { parameters := [], returnType := none }, accessFlags := 4, code := some k2c0 }
/-- java/lang/Record -/
def k2 : Class := { plain "java/lang/Record" (some 0) with
  accessFlags := 1057
  interfaces := #[]
  cf := some (fileOf pool2 7 #[] #[{ accessFlags := 4, nameIndex := 5, descriptorIndex := 6, attributes := #[] }] 1057 2 #[] #[])
  fields := #[]
  methods := #[k2m0]
  instanceTypes := #[]
  staticTypes := #[]
  resolved := Array.replicate 22 none
  statics := none }

def pool3 : Array CpInfo := pool [(3, .methodref 4 5), (0, .class_ 6), (0, .nameAndType 7 8), (0, u "java/lang/Record"), (0, u "<init>"), (0, u "()V"), (0, .fieldref 10 11), (0, .class_ 12), (0, .nameAndType 13 14), (0, u "com/example/deodar/deodar/workingcopy/FileState"), (0, u "size"), (0, u "J"), (0, .fieldref 10 16), (0, .nameAndType 17 14), (0, u "modified"), (16, u "()J"), (16, .methodref 10 52), (0, .nameAndType 7 53), (0, u "(JJ)V"), (26, .long 9223372036854775808), (17, u "UNTRUSTED"), (0, u "Lcom/example/deodar/deodar/workingcopy/FileState;"), (0, u "UNKNOWN"), (9, u "toRecord"), (0, u "(J)Lcom/example/deodar/deodar/workingcopy/FileState;")] 25

def k3c0 : Code := { maxStack := 3, maxLocals := 5, code := prog_99_method_1_code, exceptionTable := #[], attributes := #[] }
def k3m0 : Method := { name := "<init>", desc := "(JJ)V", sig := { parameters := [.long, .long], returnType := none }, accessFlags := 0, code := some k3c0 }
def k3c1 : Code := { maxStack := 6, maxLocals := 3, code := prog_99_method_5_code, exceptionTable := #[], attributes := #[] }
def k3m1 : Method := { name := "toRecord", desc := "(J)Lcom/example/deodar/deodar/workingcopy/FileState;", sig := { parameters := [.long], returnType := some (.object "com/example/deodar/deodar/workingcopy/FileState") }, accessFlags := 0, code := some k3c1 }
def k3c2 : Code := { maxStack := 2, maxLocals := 1, code := prog_99_method_9_code, exceptionTable := #[], attributes := #[] }
def k3m2 : Method := { name := "size", desc := "()J", sig := { parameters := [], returnType := some .long }, accessFlags := 1, code := some k3c2 }
def k3c3 : Code := { maxStack := 2, maxLocals := 1, code := prog_99_method_10_code, exceptionTable := #[], attributes := #[] }
def k3m3 : Method := { name := "modified", desc := "()J", sig := { parameters := [], returnType := some .long }, accessFlags := 1, code := some k3c3 }
/-- com/example/deodar/deodar/workingcopy/FileState -/
def k3 : Class := { plain "com/example/deodar/deodar/workingcopy/FileState" (some 2) with
  accessFlags := 48
  interfaces := #[]
  cf := some (fileOf pool3 10 #[] #[{ accessFlags := 0, nameIndex := 7, descriptorIndex := 53, attributes := #[] }, { accessFlags := 0, nameIndex := 110, descriptorIndex := 111, attributes := #[] }, { accessFlags := 1, nameIndex := 13, descriptorIndex := 34, attributes := #[] }, { accessFlags := 1, nameIndex := 17, descriptorIndex := 34, attributes := #[] }] 48 4 #[] #[{ accessFlags := 18, nameIndex := 13, descriptorIndex := 14, attributes := #[] }, { accessFlags := 18, nameIndex := 17, descriptorIndex := 14, attributes := #[] }, { accessFlags := 24, nameIndex := 100, descriptorIndex := 14, attributes := #[] }, { accessFlags := 24, nameIndex := 98, descriptorIndex := 99, attributes := #[] }])
  fields := #[{ name := "size", type := .long, accessFlags := 18, slot := 0, constantValue := 0 }, { name := "modified", type := .long, accessFlags := 18, slot := 1, constantValue := 0 }, { name := "UNKNOWN", type := .long, accessFlags := 24, slot := 0, constantValue := 0 }, { name := "UNTRUSTED", type := (.object "com/example/deodar/deodar/workingcopy/FileState"), accessFlags := 24, slot := 1, constantValue := 0 }]
  methods := #[k3m0, k3m1, k3m2, k3m3]
  instanceTypes := #[.long, .long]
  staticTypes := #[.long, (.object "com/example/deodar/deodar/workingcopy/FileState")]
  resolved := Array.replicate 137 none
  statics := none }

def pool4 : Array CpInfo := pool [(1, u "java/lang/Cloneable"), (0, .class_ 1), (0, u "java/lang/Object"), (0, .class_ 3)] 3

/-- java/lang/Cloneable -/
def k4 : Class := { plain "java/lang/Cloneable" (some 0) with
  accessFlags := 1537
  interfaces := #[]
  cf := some (fileOf pool4 2 #[] #[] 1537 4 #[] #[])
  fields := #[]
  methods := #[]
  instanceTypes := #[]
  staticTypes := #[]
  resolved := Array.replicate 8 none
  statics := none }

def pool5 : Array CpInfo := pool [(1, u "java/io/Serializable"), (0, .class_ 1), (0, u "java/lang/Object"), (0, .class_ 3)] 3

/-- java/io/Serializable -/
def k5 : Class := { plain "java/io/Serializable" (some 0) with
  accessFlags := 1537
  interfaces := #[]
  cf := some (fileOf pool5 2 #[] #[] 1537 4 #[] #[])
  fields := #[]
  methods := #[]
  instanceTypes := #[]
  staticTypes := #[]
  resolved := Array.replicate 8 none
  statics := none }

/-- the primitive byte -/
def k6 : Class := { plain "byte" none with kind := .primitive 'B', accessFlags := 0x411 }
/-- [B -/
def k7 : Class := { plain "[B" (some 0) with kind := .array 6 .byte, interfaces := #[4, 5], accessFlags := 1041 }

/-- the primitive int -/
def k8 : Class := { plain "int" none with kind := .primitive 'I', accessFlags := 0x411 }
/-- [I -/
def k9 : Class := { plain "[I" (some 0) with kind := .array 8 .int, interfaces := #[4, 5], accessFlags := 1041 }

def heap : Heap := #[]
def classes : Array Class := #[k0, k1, k2, k3, k4, k5, k6, k7, k8, k9]
def interned : List (Array UInt16 × Addr) := []
def slotsUsed : Nat := 0
def theMethod : MethodId := ⟨1, 1⟩
def args0 : Array Value := #[.long 5, .long 7, .long 9, .int 1]
def aboutOver (below : List Frame) : State where
  vm := { classes := classes, interned := interned.toArray }
  heap := heap
  slotsUsed := slotsUsed
  threads := #[{ frames := .invoking theMethod args0 :: below }]
def below0 : List Frame := [.native { method := ⟨0, 0⟩, args := #[] }]
def about1 : State := aboutOver below0
def p0 : Program := .bare "" "" ""
def e0 : Env := launch0.env 0 0 0
theorem w_frames : about1.frames = Frame.invoking theMethod args0 :: below0 := rfl
set_option maxRecDepth 65536 in
theorem w_args : argsFit about1.vm theMethod args0 = true := by decide +kernel
set_option maxRecDepth 65536 in
theorem w_heap : heapFits about1 = true := by decide +kernel
set_option maxRecDepth 65536 in
theorem w_runnable : about1.curStatus? = some .runnable := by decide +kernel
set_option maxRecDepth 65536 in
theorem w_alone : about1.alone = true := by decide +kernel
set_option maxRecDepth 65536 in
theorem w_named : about1.methodNamed? x = some theMethod := by decide +kernel
set_option maxRecDepth 65536 in
theorem w_hears : about1.hears theMethod below0 = true := by decide +kernel
set_option maxRecDepth 65536 in
theorem w_ripe : about1.ripe theMethod args0 below0 = true := by decide +kernel
theorem w_running : about1.status = .running := rfl
set_option maxRecDepth 65536 in
theorem w_room : about1.hasRoom e0.platform room_1 = true :=
  launch0.hasRoom_least _ room_1 (by decide +kernel) (by decide +kernel) (by decide +kernel) (by decide +kernel) (by decide +kernel) (by decide +kernel)
theorem allAtoms_all (ts : List Jvm.Cond) (a : Array Jvm.Value) (st : Jvm.State) : (allAtoms ts).before a st = ts.all (fun c => c.before a st) := by
  induction ts with
  | nil => rfl
  | cons c t ih =>
    show (Jvm.Cond.and c (allAtoms t)).before a st = _
    rw [Jvm.Cond.before_and, ih, List.all_cons]
def words1 : List Jvm.Cond := Jvm.Cond.code x code maxLocals ret :: tables_1
/-- a 'code' word, met by the world's own term for the bytes: nothing is compared byte by byte -/
theorem code_word {y : MethodName} {bytes : ByteArray} {mx : Nat} {rt : Option FieldType} {a : Array Value} {s : State} {m : MethodId} {meth : Method} {c : Code} (h1 : s.methodNamed? y = some m) (h2 : s.vm.method? m = some meth) (h3 : meth.code = some c) (h4 : c.code = bytes)
    (h5 : (c.maxLocals == mx && c.exceptionTable.isEmpty && decide (c.maxStack ≤ mostOperands) && decide (meth.sig.returnType = rt) && !meth.locks && decide (parseMethodDescriptor y.desc = some meth.sig)) = true) : (Jvm.Cond.code y bytes mx rt).before a s = true := by
  simp only [Bool.and_eq_true, beq_iff_eq, Bool.not_eq_true', decide_eq_true_eq] at h5
  obtain ⟨⟨⟨⟨⟨g1, g2⟩, g3⟩, g4⟩, g5⟩, g6⟩ := h5
  simp [Cond.before, Cond.holds, Cond.value, h1, h2, h3, h4, g1, g2, g3, g4, g5, g6]
def isCode : Jvm.Cond → Bool
  | .code _ _ _ _ => true
  | _ => false
theorem all_split {L : List Jvm.Cond} {P : Jvm.Cond → Bool} (h1 : L.all (fun c => isCode c || P c) = true) (h2 : ∀ c ∈ L.filter isCode, P c = true) : L.all P = true := by
  refine List.all_eq_true.mpr fun c hc => ?_
  have h := List.all_eq_true.mp h1 c hc
  rcases Bool.eq_false_or_eq_true (isCode c) with hi | hi
  · exact h2 c (List.mem_filter.mpr ⟨hc, hi⟩)
  · simpa [hi] using h
set_option maxRecDepth 65536 in
theorem w_c0 : (Jvm.Cond.code x code maxLocals ret).before args0 about1 = true := code_word (m := ⟨1, 1⟩) (meth := k1m1) (c := k1c1) (by decide +kernel) rfl rfl rfl (by decide +kernel)
set_option maxRecDepth 65536 in
theorem w_c1 : (Jvm.Cond.code ({ cls := "com/example/deodar/deodar/workingcopy/FileState", name := "<init>", desc := "(JJ)V" } : Jvm.MethodName) prog_99_method_1_code (5 : Nat) (Option.none : Option Jvm.ClassFile.FieldType)).before args0 about1 = true := code_word (m := ⟨3, 0⟩) (meth := k3m0) (c := k3c0) (by decide +kernel) rfl rfl rfl (by decide +kernel)
set_option maxRecDepth 65536 in
theorem w_c2 : (Jvm.Cond.code ({ cls := "java/lang/Record", name := "<init>", desc := "()V" } : Jvm.MethodName) jdk_30_method_1_code (1 : Nat) (Option.none : Option Jvm.ClassFile.FieldType)).before args0 about1 = true := code_word (m := ⟨2, 0⟩) (meth := k2m0) (c := k2c0) (by decide +kernel) rfl rfl rfl (by decide +kernel)
set_option maxRecDepth 65536 in
theorem w_c3 : (Jvm.Cond.code ({ cls := "java/lang/Object", name := "<init>", desc := "()V" } : Jvm.MethodName) object_method_1_code (1 : Nat) (Option.none : Option Jvm.ClassFile.FieldType)).before args0 about1 = true := code_word (m := ⟨0, 0⟩) (meth := k0m0) (c := k0c0) (by decide +kernel) rfl rfl rfl (by decide +kernel)
set_option maxRecDepth 65536 in
theorem w_c4 : (Jvm.Cond.code ({ cls := "com/example/deodar/deodar/workingcopy/FileState", name := "toRecord", desc := "(J)Lcom/example/deodar/deodar/workingcopy/FileState;" } : Jvm.MethodName) prog_99_method_5_code (3 : Nat) (Option.some (Jvm.ClassFile.FieldType.object "com/example/deodar/deodar/workingcopy/FileState"))).before args0 about1 = true := code_word (m := ⟨3, 1⟩) (meth := k3m1) (c := k3c1) (by decide +kernel) rfl rfl rfl (by decide +kernel)
set_option maxRecDepth 65536 in
theorem w_c5 : (Jvm.Cond.code ({ cls := "com/example/deodar/deodar/workingcopy/FileState", name := "size", desc := "()J" } : Jvm.MethodName) prog_99_method_9_code (1 : Nat) (Option.some Jvm.ClassFile.FieldType.long)).before args0 about1 = true := code_word (m := ⟨3, 2⟩) (meth := k3m2) (c := k3c2) (by decide +kernel) rfl rfl rfl (by decide +kernel)
set_option maxRecDepth 65536 in
theorem w_c6 : (Jvm.Cond.code ({ cls := "com/example/deodar/deodar/workingcopy/FileState", name := "modified", desc := "()J" } : Jvm.MethodName) prog_99_method_10_code (1 : Nat) (Option.some Jvm.ClassFile.FieldType.long)).before args0 about1 = true := code_word (m := ⟨3, 3⟩) (meth := k3m3) (c := k3c3) (by decide +kernel) rfl rfl rfl (by decide +kernel)
def codes1 : List Jvm.Cond := [Jvm.Cond.code x code maxLocals ret, Jvm.Cond.code ({ cls := "com/example/deodar/deodar/workingcopy/FileState", name := "<init>", desc := "(JJ)V" } : Jvm.MethodName) prog_99_method_1_code (5 : Nat) (Option.none : Option Jvm.ClassFile.FieldType), Jvm.Cond.code ({ cls := "java/lang/Record", name := "<init>", desc := "()V" } : Jvm.MethodName) jdk_30_method_1_code (1 : Nat) (Option.none : Option Jvm.ClassFile.FieldType), Jvm.Cond.code ({ cls := "java/lang/Object", name := "<init>", desc := "()V" } : Jvm.MethodName) object_method_1_code (1 : Nat) (Option.none : Option Jvm.ClassFile.FieldType), Jvm.Cond.code ({ cls := "com/example/deodar/deodar/workingcopy/FileState", name := "toRecord", desc := "(J)Lcom/example/deodar/deodar/workingcopy/FileState;" } : Jvm.MethodName) prog_99_method_5_code (3 : Nat) (Option.some (Jvm.ClassFile.FieldType.object "com/example/deodar/deodar/workingcopy/FileState")), Jvm.Cond.code ({ cls := "com/example/deodar/deodar/workingcopy/FileState", name := "size", desc := "()J" } : Jvm.MethodName) prog_99_method_9_code (1 : Nat) (Option.some Jvm.ClassFile.FieldType.long), Jvm.Cond.code ({ cls := "com/example/deodar/deodar/workingcopy/FileState", name := "modified", desc := "()J" } : Jvm.MethodName) prog_99_method_10_code (1 : Nat) (Option.some Jvm.ClassFile.FieldType.long)]
set_option maxRecDepth 65536 in
theorem codes_eq : words1.filter isCode = codes1 := rfl
theorem w_codes : ∀ c ∈ words1.filter isCode, c.before args0 about1 = true := by
  rw [codes_eq]
  intro c hc
  simp only [codes1, List.mem_cons, List.not_mem_nil, or_false] at hc
  rcases hc with rfl | rfl | rfl | rfl | rfl | rfl | rfl
  · exact w_c0
  · exact w_c1
  · exact w_c2
  · exact w_c3
  · exact w_c4
  · exact w_c5
  · exact w_c6
set_option maxRecDepth 65536 in
theorem w_t1 : (words1.take 24).all (fun c => isCode c || c.before args0 about1) = true := by decide +kernel
set_option maxRecDepth 65536 in
theorem w_t2 : (words1.drop 24).all (fun c => isCode c || c.before args0 about1) = true := by decide +kernel
theorem w_tables : (allAtoms (Jvm.Cond.code x code maxLocals ret :: tables_1)).before args0 about1 = true := by
  rw [allAtoms_all]
  show words1.all (fun c => c.before args0 about1) = true
  refine all_split ?_ w_codes
  rw [← List.take_append_drop 24 words1, List.all_append, w_t1, w_t2]
  rfl
set_option maxRecDepth 65536 in
theorem w_case : (Jvm.Cond.and given_1 narrow_1).before args0 about1 = true := by decide +kernel
theorem w_applies : (headSpec (Jvm.Cond.code x code maxLocals ret :: tables_1) room_1).applies x e0.platform about1 = true :=
  (Spec.applies_iff w_frames).mpr ⟨w_running, w_runnable, w_alone, w_named, w_hears, w_ripe, w_room, w_tables⟩
theorem atStart : AtStart classFile x code maxLocals ret World_1 tables_1 room_1 Calls_1 rest_1 Pre_1 launch0 p0 e0 about1 theMethod args0 below0 :=
  ⟨lists_1, trivial, launch0.admits_env _ _ _, launch0.least_env, fairChoices_fair.cas, fairChoices_fair.clock, w_frames, w_args, w_heap, w_applies, trivial, trivial, w_case⟩
end start1
theorem witness_1 : WitnessClaimed_1 := ⟨start1.p0, start1.e0, start1.about1, start1.theMethod, start1.args0, start1.below0, start1.atStart⟩
end Jvm.Pilot.@@N@@
