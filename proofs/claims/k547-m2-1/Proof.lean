import JvmDerived
import JvmDerived.Pilot.@@N@@Statement
import JvmDerived.Pilot.@@N@@Code
set_option linter.unusedVariables false
set_option linter.unusedSimpArgs false
namespace Jvm.RoadKit
open Sem ClassFile Op Lib Jvm.Stand Jvm.Free Jvm.LawKit
section New
variable {p : Program} {l : Launch} {e : Env} {R : Room} {s : State} {m : MethodId} {args : Array Value} {below : List Frame} {meth : Method} {c : Code} {T : State} {locs : List Loc} {cells slots : Nat}
theorem retI (X : Stand p l e R s m args below meth c T locs cells slots) (hx : p.tables.exec = Jvm.exec) {pc : Nat} {Ls : Array Slot} {z : Int32} {rest : List Value} (hret : meth.sig.returnType = some .int) (hd : decode c.code pc = .ok (.ireturn, 1)) {fs : List Frame}
    (hl : ∀ (f : JFrame) (acts : List Action), f.method = m → f.locked = none → f.entered = [] → (doReturn e (T.setTop f) acts (some (.int z))).1 = T.setFrames fs) : Steps p.tables e below (T.setTop (mkF m pc Ls (.int z :: rest))) (T.setFrames fs) := by
  have hm' : T.vm.method? m = some meth := X.method'
  have hn : narrow .int (.int z) = .int z := rfl
  show Steps p.tables e below (T.setTop { method := m, pc := pc, locals := Ls, stack := _ :: rest, locked := none }) _
  jvm_step X.here [X.here.top, hx, hd, hm', hret, hn]
  first | (intro acts; rw [hl _ acts rfl rfl rfl]) | rw [hl _ _ rfl rfl rfl]
  exact Steps.refl _
/-- from here the run ends as G says -/
def WP (tb : Tables) (e : Env) (below : List Frame) (G : State → Outcome → Prop) (T : State) (f : JFrame) : Prop := ∃ s₂ o, Steps tb e below (T.setTop f) s₂ ∧ G s₂ o
theorem WP.go {tb : Tables} {G : State → Outcome → Prop} {f : JFrame} (h : WP tb e below G T f) : ∃ s₂ o, Steps tb e below (T.setTop f) s₂ ∧ G s₂ o := h
theorem WP.fin {tb : Tables} {G : State → Outcome → Prop} {f : JFrame} (h : ∃ s₂ o, Steps tb e below (T.setTop f) s₂ ∧ G s₂ o) : WP tb e below G T f := h
theorem WP.cast {tb : Tables} {G : State → Outcome → Prop} {f f' : JFrame} (q : f = f') (h : WP tb e below G T f') : WP tb e below G T f := q ▸ h
theorem WP.st {tb : Tables} {G : State → Outcome → Prop} {T' : State} {f f' : JFrame} (k : ∀ t, Steps tb e below (T'.setTop f') t → Steps tb e below (T.setTop f) t) (h : WP tb e below G T' f') : WP tb e below G T f := by
  obtain ⟨s₂, o, h1, h2⟩ := h
  exact ⟨s₂, o, k _ h1, h2⟩
theorem WP.tr {tb : Tables} {G : State → Outcome → Prop} {T' : State} {f f' : JFrame} (k : Steps tb e below (T.setTop f) (T'.setTop f')) (h : WP tb e below G T' f') : WP tb e below G T f := by
  obtain ⟨s₂, o, h1, h2⟩ := h
  exact ⟨s₂, o, k.trans h1, h2⟩
theorem WP.name {tb : Tables} {G : State → Outcome → Prop} {f : JFrame} (h : ∀ G', G' = G → WP tb e below G' T f) : WP tb e below G T f := h G rfl
theorem ownWider (X : Stand p l e R s m args below meth c T locs cells slots) {c' s' : Nat} (h1 : cells ≤ c') (h2 : slots ≤ s') : Stand p l e R s m args below meth c T locs c' s' := { X with same := X.same.mono h1 h2 }
end New
theorem Arv.rd {Z : State} {h : Heap} {a : Addr} {k : ClassId} {ty : FieldType} {z j : Int32} {vs : List Value} {dv : Value} (F : Arv Z h a k ty z vs dv) (hj : ¬ j < 0 ∧ j < z) : ∃ c : Cell, Arr Z h a c ty ∧ ¬ (j < 0 ∨ c.slots.size ≤ j.toNatClampNeg) ∧ c.slots[j.toNatClampNeg]? = some (vs.getD j.toNatClampNeg dv) ∧ c.slots.size.toInt32 = z := by
  obtain ⟨c, A, -, S, q, H, -⟩ := F
  have hin := inb_of S hj
  exact ⟨c, A, hin, H.at hin rfl, len_of S q⟩
theorem Arv.len {Z : State} {h : Heap} {a : Addr} {k : ClassId} {ty : FieldType} {z : Int32} {vs : List Value} {dv : Value} (F : Arv Z h a k ty z vs dv) : ∃ c : Cell, Arr Z h a c ty ∧ c.slots.size.toInt32 = z := by
  obtain ⟨c, A, -, S, q, -, -⟩ := F
  exact ⟨c, A, len_of S q⟩
theorem ownFits {t : FieldType} {x : Int32} {y : Value} (h : narrow t (.int x) = y) (hf : fits t (narrow t (.int x)) = true) : fits t y = true := h ▸ hf
theorem nar01 {b : Int32} (h : b = 0 ∨ b = 1) : nar .boolean b = b := by rcases h with rfl | rfl <;> rfl
end Jvm.RoadKit
namespace Jvm.Pilot.@@N@@
open Jvm Jvm.ClassFile Sem Op Lib Jvm.Free Jvm.Stand Jvm.LawKit Jvm.RoadKit Bundle Jvm.Pilot.@@N@@.Jvm.D
theorem ef_2 (m : MethodId) (a1 : Addr) : entryFrame m #[(.ref a1)] 1 = mkF m 0 #[.val (.ref a1)] [] := by first | (simp [entryFrame, mkF, argsToLocals, Value.category]; done) | rfl
theorem pn_0 : plainName "com/example/rows_by_reference/rowsbyreference/types/DataType" = true := by first | (simp [plainName, overriddenIn]; done) | decide +kernel
theorem d2_0 : decode prog_149_method_1_code 0 = .ok (.aload_n 0, 1) := by decide +kernel
theorem d2_1 : decode prog_149_method_1_code 1 = .ok (.invokespecial 1, 3) := by decide +kernel
theorem d2_4 : decode prog_149_method_1_code 4 = .ok (.return_, 1) := by decide +kernel
def Q2 (Z : State) (a1 : Addr) (h0 : Heap) (n0 : Nat) (v : Option Value) (h : Heap) (L : List Loc) : Prop := v = none ∧ Fr n0 L ∧ Keep h0 h []
set_option maxRecDepth 65536 in
set_option maxHeartbeats 40000000 in
theorem rm2 (l : Launch) (Z : State) (a0 : Array Value) (hw : ∀ d ∈ tables_1, d.before a0 Z = true) (ws : List Jvm.Cond) (a1 : Addr) (h0 : Heap) (n0 : Nat) (Z0 : n0 ≤ h0.size)  :
    MetFree l (⟨"com/example/rows_by_reference/rowsbyreference/types/DataType", "<init>", "()V"⟩ : MethodName) (head1 (Jvm.Cond.code (⟨"com/example/rows_by_reference/rowsbyreference/types/DataType", "<init>", "()V"⟩ : MethodName) prog_149_method_1_code 1 none :: ws) ({ frames := 1, cells := 0, slots := 0, locals := 12 } : Room)) (fun a U => a = #[(.ref a1)] ∧ Z.Warmed39 U.vm ∧ U.heap = h0) (fun _ _ _ _ _ => True) (fun _ U o U' => ∃ v L, o = .returned v ∧ Q2 Z a1 h0 n0 v U'.heap L ∧ FrameEnd U o U' L ({ frames := 1, cells := 0, slots := 0, locals := 12 } : Room).cells ({ frames := 1, cells := 0, slots := 0, locals := 12 } : Room).slots) := by
  refine MetFree.of_bodySF (plainFor_of_name pn_0) hisR ?_
  intro p e s m args below meth c s₁ Bd hml0 hP hK
  obtain ⟨rfl, hZ, hh⟩ := hP
  have hx := Bd.exec
  have hby := Bd.bytes
  have hml : c.maxLocals = 1 := hml0
  have hown : s.vm.findClass "com/example/rows_by_reference/rowsbyreference/types/DataType" = some m.cls := findClass_of_methodNamed Bd.named
  have hnm := (name_of_methodNamed Bd.named Bd.method).1
  have X0 : Stand p l e ({ frames := 1, cells := 0, slots := 0, locals := 12 } : Room) s m #[(.ref a1)] below meth c s₁ [] 0 0 := Stand.of_body Bd
  have e0 : s₁.heap = h0 := by rw [← hh, Bd.state]; rfl
  have NF := Fr.nil n0
  have KP : Keep h0 h0 [] := Keep.refl h0 _
  refine WP.go ?_
  refine WP.cast (ef_2 m a1) ?_
  refine WP.name ?_
  intro G hG
  have bk1 : ∀ t, Steps p.tables e below (s₁.setTop (mkF m 1 #[.val (.ref a1)] [(.ref a1)])) t → Steps p.tables e below (s₁.setTop (mkF m 0 #[.val (.ref a1)] [])) t := fun t k => by
    refine XS.aloadN X0.here hx rfl (hb hby d2_0) rfl rfl ?_
    exact k
  refine WP.st bk1 ?_
  clear bk1
  obtain ⟨T2, X2, e2, st2⟩ := initO X0 hx hZ hown (hw _ (List.mem_of_getElem? (i := 11) rfl)) (hw _ (List.mem_of_getElem? (i := 12) rfl)) (hw _ (List.mem_of_getElem? (i := 13) rfl)) e0 (g := (mkF m 1 #[.val (.ref a1)] [(.ref a1)])) rfl (by rw [hml]; rfl) rfl (hb hby d2_1) (by decide) (W := 0) (by show 2 * 0 + _ ≤ _; exact Nat.le_of_eq rfl) (by decide)
  refine WP.st st2 ?_
  clear st2
  show WP p.tables e below _ T2 (mkF m 4 #[.val (.ref a1)] [])
  subst hG
  obtain ⟨fs, hr, hrun, hended, hW, hsame⟩ := X2.leave (v := none) (fun _ => rfl)
  refine WP.fin ⟨_, _, ?_, hrun, hended, _, _, rfl, ?_, ⟨_, rfl⟩, hW, hsame.mono (by decide) (by decide)⟩
  · exact X2.returnOut hx Bd.returns (hb hby d2_4) hr
  · show Q2 Z a1 h0 n0 _ T2.heap _
    rw [e2]
    exact ⟨rfl, NF, KP⟩
theorem ef_1 (m : MethodId) (a1 : Addr) (p1 : Int32) (p2 : Int32) : entryFrame m #[(.ref a1), (.int p1), (.int p2)] 3 = mkF m 0 #[.val (.ref a1), .val (.int p1), .val (.int p2)] [] := by first | (simp [entryFrame, mkF, argsToLocals, Value.category]; done) | rfl
theorem pn_1 : plainName "com/example/rows_by_reference/rowsbyreference/types/VarcharType" = true := by first | (simp [plainName, overriddenIn]; done) | decide +kernel
theorem d1_0 : decode prog_166_method_1_code 0 = .ok (.aload_n 0, 1) := by decide +kernel
theorem d1_1 : decode prog_166_method_1_code 1 = .ok (.invokespecial 1, 3) := by decide +kernel
theorem pd_0 : parseMethodDescriptor "()V" = some ⟨[], none⟩ := by decide +kernel
theorem d1_4 : decode prog_166_method_1_code 4 = .ok (.aload_n 0, 1) := by decide +kernel
theorem d1_5 : decode prog_166_method_1_code 5 = .ok (.iload_n 1, 1) := by decide +kernel
theorem d1_6 : decode prog_166_method_1_code 6 = .ok (.putfield 7, 3) := by decide +kernel
theorem d1_9 : decode prog_166_method_1_code 9 = .ok (.aload_n 0, 1) := by decide +kernel
theorem d1_10 : decode prog_166_method_1_code 10 = .ok (.iload_n 2, 1) := by decide +kernel
theorem d1_11 : decode prog_166_method_1_code 11 = .ok (.putfield 13, 3) := by decide +kernel
theorem d1_14 : decode prog_166_method_1_code 14 = .ok (.return_, 1) := by decide +kernel
def Q1 (Z : State) (a1 : Addr) (p1 : Int32) (p2 : Int32) (u1 : Int32) (u2 : Int32) (h0 : Heap) (n0 : Nat) (v : Option Value) (h : Heap) (L : List Loc) : Prop := v = none ∧ Fr n0 L ∧ Keep h0 h [a1] ∧ Fld Z h a1 "com/example/rows_by_reference/rowsbyreference/types/VarcharType" "length" "I" (.int p1) ∧ Fld Z h a1 "com/example/rows_by_reference/rowsbyreference/types/VarcharType" "national" "Z" (.int p2)
set_option maxRecDepth 65536 in
set_option maxHeartbeats 40000000 in
theorem rm1 (l : Launch) (Z : State) (a0 : Array Value) (hw : ∀ d ∈ tables_1, d.before a0 Z = true) (ws : List Jvm.Cond) (a1 : Addr) (p1 : Int32) (p2 : Int32) (u1 : Int32) (u2 : Int32) (h0 : Heap) (n0 : Nat) (Z0 : n0 ≤ h0.size) (E_a1 : Exa Z h0 a1 "com/example/rows_by_reference/rowsbyreference/types/VarcharType") (g_a1 : n0 ≤ a1) (F_a1_length : Fld Z h0 a1 "com/example/rows_by_reference/rowsbyreference/types/VarcharType" "length" "I" (.int u1)) (F_a1_national : Fld Z h0 a1 "com/example/rows_by_reference/rowsbyreference/types/VarcharType" "national" "Z" (.int u2)) (h01 : p2 = 0 ∨ p2 = 1) :
    MetFree l (⟨"com/example/rows_by_reference/rowsbyreference/types/VarcharType", "<init>", "(IZ)V"⟩ : MethodName) (head1 (Jvm.Cond.code (⟨"com/example/rows_by_reference/rowsbyreference/types/VarcharType", "<init>", "(IZ)V"⟩ : MethodName) prog_166_method_1_code 3 none :: ws) ({ frames := 2, cells := 0, slots := 0, locals := 24 } : Room)) (fun a U => a = #[(.ref a1), (.int p1), (.int p2)] ∧ Z.Warmed39 U.vm ∧ U.heap = h0) (fun _ _ _ _ _ => True) (fun _ U o U' => ∃ v L, o = .returned v ∧ Q1 Z a1 p1 p2 u1 u2 h0 n0 v U'.heap L ∧ FrameEnd U o U' L ({ frames := 2, cells := 0, slots := 0, locals := 24 } : Room).cells ({ frames := 2, cells := 0, slots := 0, locals := 24 } : Room).slots) := by
  refine MetFree.of_bodySF (plainFor_of_name pn_1) hisR ?_
  intro p e s m args below meth c s₁ Bd hml0 hP hK
  obtain ⟨rfl, hZ, hh⟩ := hP
  have hx := Bd.exec
  have hby := Bd.bytes
  have hml : c.maxLocals = 3 := hml0
  have hown : s.vm.findClass "com/example/rows_by_reference/rowsbyreference/types/VarcharType" = some m.cls := findClass_of_methodNamed Bd.named
  have hnm := (name_of_methodNamed Bd.named Bd.method).1
  have X0 : Stand p l e ({ frames := 2, cells := 0, slots := 0, locals := 24 } : Room) s m #[(.ref a1), (.int p1), (.int p2)] below meth c s₁ [] 0 0 := Stand.of_body Bd
  have e0 : s₁.heap = h0 := by rw [← hh, Bd.state]; rfl
  have NF := Fr.nil n0
  have KP : Keep h0 h0 [a1] := Keep.refl h0 _
  refine WP.go ?_
  refine WP.cast (ef_1 m a1 p1 p2) ?_
  refine WP.name ?_
  intro G hG
  have bk3 : ∀ t, Steps p.tables e below (s₁.setTop (mkF m 1 #[.val (.ref a1), .val (.int p1), .val (.int p2)] [(.ref a1)])) t → Steps p.tables e below (s₁.setTop (mkF m 0 #[.val (.ref a1), .val (.int p1), .val (.int p2)] [])) t := fun t k => by
    refine XS.aloadN X0.here hx rfl (hb hby d1_0) rfl rfl ?_
    exact k
  refine WP.st bk3 ?_
  clear bk3
  obtain ⟨_, _, ⟨T4, L4, k4, n4⟩, -, X4, ⟨Lc4, hQ4, l4, y4, z4⟩, st4⟩ := X0.specialBack hx (y := (⟨"com/example/rows_by_reference/rowsbyreference/types/DataType", "<init>", "()V"⟩ : MethodName)) rfl hown (mvT hZ (hw _ (List.mem_of_getElem? (i := 6) rfl))) (mvT hZ (hw _ (List.mem_of_getElem? (i := 7) rfl))) (mvT hZ (hw _ (List.mem_of_getElem? (i := 10) rfl))) (by decide) (backOf (W := 0) (rm2 l Z a0 hw [] a1 h0 n0 Z0 ) hZ (hw _ (List.mem_of_getElem? (i := 10) rfl)) (hw _ (List.mem_of_getElem? (i := 9) rfl)) (by decide) (by decide)) (g := (mkF m 1 #[.val (.ref a1), .val (.int p1), .val (.int p2)] [(.ref a1)])) rfl (by rw [hml]; rfl) (Steps.refl _) (a := a1) (argsL := []) (rest := []) (lenOf pd_0 rfl) rfl (by show 2 * 0 + _ ≤ _; exact Nat.le_of_eq rfl) (hb hby d1_1) (fun _ _ => ⟨rfl, e0, (by decide : 0 + 0 ≤ _), (by decide : 0 + 0 ≤ _)⟩)
  dsimp only [Pt.U, Pt.locs, Pt.cells, Pt.slots] at X4 l4 y4 z4 st4 hQ4
  subst l4 y4 z4
  obtain ⟨rfl, Nq4, Kq4⟩ := hQ4
  replace NF := Fr.app NF Nq4
  clear Nq4
  refine WP.tr st4 ?_
  clear st4
  obtain ⟨h4, e4⟩ : ∃ h, T4.heap = h := ⟨_, rfl⟩
  rw [e4] at Kq4
  replace E_a1 := E_a1.keep Kq4
  replace F_a1_length := F_a1_length.keep Kq4 (by exact nin0)
  replace F_a1_national := F_a1_national.keep Kq4 (by exact nin0)
  replace Z0 := Nat.le_trans Z0 Kq4.1
  replace KP := KP.trans Kq4 all0
  clear Kq4
  show WP p.tables e below _ T4 (mkF m 4 #[.val (.ref a1), .val (.int p1), .val (.int p2)] [])
  have bk5 : ∀ t, Steps p.tables e below (T4.setTop (mkF m 6 #[.val (.ref a1), .val (.int p1), .val (.int p2)] [(.int p1), (.ref a1)])) t → Steps p.tables e below (T4.setTop (mkF m 4 #[.val (.ref a1), .val (.int p1), .val (.int p2)] [])) t := fun t k => by
    refine XS.aloadN X4.here hx rfl (hb hby d1_4) rfl rfl ?_
    show Steps p.tables e below (T4.setTop (mkF m 5 #[.val (.ref a1), .val (.int p1), .val (.int p2)] [(.ref a1)])) t
    refine XS.iloadN X4.here hx rfl (hb hby d1_5) rfl ?_
    exact k
  refine WP.st bk5 ?_
  clear bk5
  obtain ⟨T6, h6, X6, e6, W6, st6⟩ := putF X4 hx hZ hown (host := "") (Or.inl (hw _ (List.mem_of_getElem? (i := 14) rfl))) Via.refl e4 F_a1_length E_a1 (Or.inr ⟨(hw _ (List.mem_of_getElem? (i := 15) rfl)), rfl, hnm⟩) (hw _ (List.mem_of_getElem? (i := 1) rfl)) (ty := .int) (by decide) rfl rfl (g := (mkF m 6 #[.val (.ref a1), .val (.int p1), .val (.int p2)] [(.int p1), (.ref a1)])) rfl rfl (hb hby d1_6)
  refine WP.st st6 ?_
  clear st6
  replace E_a1 := E_a1.wr W6
  replace F_a1_length := F_a1_length.same W6
  replace F_a1_national := F_a1_national.other W6 (Or.inr (slot_ne (Or.inr (hw _ (List.mem_of_getElem? (i := 17) rfl))) (Or.inr (hw _ (List.mem_of_getElem? (i := 15) rfl))) (by decide) (t := .boolean) (t' := .int) (by decide) (by decide)))
  replace Z0 := Nat.le_trans Z0 (Keep.of_wr W6).1
  replace KP := KP.wr W6 (Or.inl (List.mem_of_getElem? (i := 0) rfl))
  replace NF := Fr.snoc X6 NF g_a1
  clear W6
  show WP p.tables e below _ T6 (mkF m 9 #[.val (.ref a1), .val (.int p1), .val (.int p2)] [])
  have bk7 : ∀ t, Steps p.tables e below (T6.setTop (mkF m 11 #[.val (.ref a1), .val (.int p1), .val (.int p2)] [(.int p2), (.ref a1)])) t → Steps p.tables e below (T6.setTop (mkF m 9 #[.val (.ref a1), .val (.int p1), .val (.int p2)] [])) t := fun t k => by
    refine XS.aloadN X6.here hx rfl (hb hby d1_9) rfl rfl ?_
    show Steps p.tables e below (T6.setTop (mkF m 10 #[.val (.ref a1), .val (.int p1), .val (.int p2)] [(.ref a1)])) t
    refine XS.iloadN X6.here hx rfl (hb hby d1_10) rfl ?_
    exact k
  refine WP.st bk7 ?_
  clear bk7
  obtain ⟨T8, h8, X8, e8, W8, st8⟩ := putFN X6 hx hZ hown (hw _ (List.mem_of_getElem? (i := 16) rfl)) Via.refl e6 F_a1_national E_a1 (Or.inr ⟨(hw _ (List.mem_of_getElem? (i := 17) rfl)), rfl, hnm⟩) (hw _ (List.mem_of_getElem? (i := 1) rfl)) (ty := .boolean) (v := (.int p2)) (v' := (.int p2)) (by decide) (congrArg Value.int (nar01 h01)) (ownFits (t := .boolean) (x := p2) (congrArg Value.int (nar01 h01)) (fits_nar_bool _)) (g := (mkF m 11 #[.val (.ref a1), .val (.int p1), .val (.int p2)] [(.int p2), (.ref a1)])) rfl rfl (hb hby d1_11)
  refine WP.st st8 ?_
  clear st8
  replace E_a1 := E_a1.wr W8
  replace F_a1_length := F_a1_length.other W8 (Or.inr (slot_ne (Or.inr (hw _ (List.mem_of_getElem? (i := 15) rfl))) (Or.inr (hw _ (List.mem_of_getElem? (i := 17) rfl))) (by decide) (t := .int) (t' := .boolean) (by decide) (by decide)))
  replace F_a1_national := F_a1_national.same W8
  replace Z0 := Nat.le_trans Z0 (Keep.of_wr W8).1
  replace KP := KP.wr W8 (Or.inl (List.mem_of_getElem? (i := 0) rfl))
  replace NF := Fr.snoc X8 NF g_a1
  clear W8
  show WP p.tables e below _ T8 (mkF m 14 #[.val (.ref a1), .val (.int p1), .val (.int p2)] [])
  subst hG
  obtain ⟨fs, hr, hrun, hended, hW, hsame⟩ := X8.leave (v := none) (fun _ => rfl)
  refine WP.fin ⟨_, _, ?_, hrun, hended, _, _, rfl, ?_, ⟨_, rfl⟩, hW, hsame.mono (by decide) (by decide)⟩
  · exact X8.returnOut hx Bd.returns (hb hby d1_14) hr
  · show Q1 Z a1 p1 p2 u1 u2 h0 n0 _ T8.heap _
    rw [e8]
    exact ⟨rfl, NF, KP, F_a1_length, F_a1_national⟩
theorem ef_4 (m : MethodId) (a1 : Addr) : entryFrame m #[(.ref a1)] 1 = mkF m 0 #[.val (.ref a1)] [] := by first | (simp [entryFrame, mkF, argsToLocals, Value.category]; done) | rfl
theorem d4_0 : decode prog_166_method_13_code 0 = .ok (.aload_n 0, 1) := by decide +kernel
theorem d4_1 : decode prog_166_method_13_code 1 = .ok (.getfield 7, 3) := by decide +kernel
theorem d4_4 : decode prog_166_method_13_code 4 = .ok (.i2l, 1) := by decide +kernel
theorem d4_5 : decode prog_166_method_13_code 5 = .ok (.aload_n 0, 1) := by decide +kernel
theorem d4_6 : decode prog_166_method_13_code 6 = .ok (.getfield 13, 3) := by decide +kernel
theorem d4_9 : decode prog_166_method_13_code 9 = .ok (.ifCond .eq 7, 3) := by decide +kernel
theorem d4_16 : decode prog_166_method_13_code 16 = .ok (.iconst 4, 1) := by decide +kernel
theorem d4_17 : decode prog_166_method_13_code 17 = .ok (.i2l, 1) := by decide +kernel
theorem d4_18 : decode prog_166_method_13_code 18 = .ok (.lmul, 1) := by decide +kernel
theorem d4_19 : decode prog_166_method_13_code 19 = .ok (.lreturn, 1) := by decide +kernel
theorem d4_12 : decode prog_166_method_13_code 12 = .ok (.iconst 3, 1) := by decide +kernel
theorem d4_13 : decode prog_166_method_13_code 13 = .ok (.goto 4, 3) := by decide +kernel
def Q4 (Z : State) (a1 : Addr) (w1 : Int32) (w2 : Int32) (h0 : Heap) (n0 : Nat) (v : Option Value) (h : Heap) (L : List Loc) : Prop := v = some (.long (w1.toInt64 * (if w2 = 0 then (4 : Int32) else 3).toInt64)) ∧ Fr n0 L ∧ h = h0
set_option maxRecDepth 65536 in
set_option maxHeartbeats 40000000 in
theorem rm4 (l : Launch) (Z : State) (a0 : Array Value) (hw : ∀ d ∈ tables_1, d.before a0 Z = true) (ws : List Jvm.Cond) (a1 : Addr) (w1 : Int32) (w2 : Int32) (h0 : Heap) (n0 : Nat) (Z0 : n0 ≤ h0.size) (F_a1_length : Fld Z h0 a1 "com/example/rows_by_reference/rowsbyreference/types/VarcharType" "length" "I" (.int w1)) (F_a1_national : Fld Z h0 a1 "com/example/rows_by_reference/rowsbyreference/types/VarcharType" "national" "Z" (.int w2)) :
    MetFree l (⟨"com/example/rows_by_reference/rowsbyreference/types/VarcharType", "octetLength", "()J"⟩ : MethodName) (head1 (Jvm.Cond.code (⟨"com/example/rows_by_reference/rowsbyreference/types/VarcharType", "octetLength", "()J"⟩ : MethodName) prog_166_method_13_code 1 (some .long) :: ws) ({ frames := 0, cells := 0, slots := 0, locals := 0 } : Room)) (fun a U => a = #[(.ref a1)] ∧ Z.Warmed39 U.vm ∧ U.heap = h0) (fun _ _ _ _ _ => True) (fun _ U o U' => ∃ v L, o = .returned v ∧ Q4 Z a1 w1 w2 h0 n0 v U'.heap L ∧ FrameEnd U o U' L ({ frames := 0, cells := 0, slots := 0, locals := 0 } : Room).cells ({ frames := 0, cells := 0, slots := 0, locals := 0 } : Room).slots) := by
  refine MetFree.of_bodySF (plainFor_of_name pn_1) hisR ?_
  intro p e s m args below meth c s₁ Bd hml0 hP hK
  obtain ⟨rfl, hZ, hh⟩ := hP
  have hx := Bd.exec
  have hby := Bd.bytes
  have hml : c.maxLocals = 1 := hml0
  have hown : s.vm.findClass "com/example/rows_by_reference/rowsbyreference/types/VarcharType" = some m.cls := findClass_of_methodNamed Bd.named
  have hnm := (name_of_methodNamed Bd.named Bd.method).1
  have X0 : Stand p l e ({ frames := 0, cells := 0, slots := 0, locals := 0 } : Room) s m #[(.ref a1)] below meth c s₁ [] 0 0 := Stand.of_body Bd
  have e0 : s₁.heap = h0 := by rw [← hh, Bd.state]; rfl
  have NF := Fr.nil n0
  refine WP.go ?_
  refine WP.cast (ef_4 m a1) ?_
  refine WP.name ?_
  intro G hG
  have bk9 : ∀ t, Steps p.tables e below (s₁.setTop (mkF m 1 #[.val (.ref a1)] [(.ref a1)])) t → Steps p.tables e below (s₁.setTop (mkF m 0 #[.val (.ref a1)] [])) t := fun t k => by
    refine XS.aloadN X0.here hx rfl (hb hby d4_0) rfl rfl ?_
    exact k
  refine WP.st bk9 ?_
  clear bk9
  obtain ⟨T10, X10, e10, st10⟩ := getF X0 hx hZ hown (host := "") (Or.inl (hw _ (List.mem_of_getElem? (i := 14) rfl))) Via.refl e0 F_a1_length (g := (mkF m 1 #[.val (.ref a1)] [(.ref a1)])) rfl rfl (hb hby d4_1)
  refine WP.st st10 ?_
  clear st10
  show WP p.tables e below _ T10 (mkF m 4 #[.val (.ref a1)] [(.int w1)])
  have bk11 : ∀ t, Steps p.tables e below (T10.setTop (mkF m 6 #[.val (.ref a1)] [(.ref a1), (.long (w1.toInt64))])) t → Steps p.tables e below (T10.setTop (mkF m 4 #[.val (.ref a1)] [(.int w1)])) t := fun t k => by
    refine XS.i2l X10.here hx rfl (hb hby d4_4) rfl ?_
    show Steps p.tables e below (T10.setTop (mkF m 5 #[.val (.ref a1)] [(.long (w1.toInt64))])) t
    refine XS.aloadN X10.here hx rfl (hb hby d4_5) rfl rfl ?_
    exact k
  refine WP.st bk11 ?_
  clear bk11
  obtain ⟨T12, X12, e12, st12⟩ := getF X10 hx hZ hown (host := "") (Or.inl (hw _ (List.mem_of_getElem? (i := 16) rfl))) Via.refl e10 F_a1_national (g := (mkF m 6 #[.val (.ref a1)] [(.ref a1), (.long (w1.toInt64))])) rfl rfl (hb hby d4_6)
  refine WP.st st12 ?_
  clear st12
  show WP p.tables e below _ T12 (mkF m 9 #[.val (.ref a1)] [(.int w2), (.long (w1.toInt64))])
  by_cases hc13 : w2 = (0 : Int32)
  · skip
    have bk14 : ∀ t, Steps p.tables e below (T12.setTop (mkF m 19 #[.val (.ref a1)] [(.long ((w1.toInt64) * ((4 : Int32).toInt64)))])) t → Steps p.tables e below (T12.setTop (mkF m 9 #[.val (.ref a1)] [(.int w2), (.long (w1.toInt64))])) t := fun t k => by
      refine XS.ifYes X12.here hx rfl (pc0 := 9) (pc' := 16) rfl (hb hby d4_9) rfl ((if0 _ _).trans (teq hc13).1) (by decide) (by decide) ?_
      show Steps p.tables e below (T12.setTop (mkF m 16 #[.val (.ref a1)] [(.long (w1.toInt64))])) t
      refine XS.iconst X12.here hx rfl (hb hby d4_16) ?_
      show Steps p.tables e below (T12.setTop (mkF m 17 #[.val (.ref a1)] [(.int (4 : Int32)), (.long (w1.toInt64))])) t
      refine XS.i2l X12.here hx rfl (hb hby d4_17) rfl ?_
      show Steps p.tables e below (T12.setTop (mkF m 18 #[.val (.ref a1)] [(.long ((4 : Int32).toInt64)), (.long (w1.toInt64))])) t
      refine XS.lmul X12.here hx rfl (hb hby d4_18) rfl ?_
      exact k
    refine WP.st bk14 ?_
    clear bk14
    subst hG
    obtain ⟨fs, hr, hrun, hended, hW, hsame⟩ := X12.leave (v := some (.long ((w1.toInt64) * ((4 : Int32).toInt64)))) (fun h => by rw [Bd.returns] at h; cases h)
    refine WP.fin ⟨_, _, ?_, hrun, hended, _, _, rfl, ?_, ⟨_, rfl⟩, hW, hsame.mono (by decide) (by decide)⟩
    · exact X12.lreturnOut hx Bd.returns (hb hby d4_19) hr
    · show Q4 Z a1 w1 w2 h0 n0 _ T12.heap _
      rw [e12]
      exact ⟨(by simp [hc13]), NF, rfl⟩
  · skip
    have bk15 : ∀ t, Steps p.tables e below (T12.setTop (mkF m 19 #[.val (.ref a1)] [(.long ((w1.toInt64) * ((3 : Int32).toInt64)))])) t → Steps p.tables e below (T12.setTop (mkF m 9 #[.val (.ref a1)] [(.int w2), (.long (w1.toInt64))])) t := fun t k => by
      refine XS.ifNo X12.here hx rfl (hb hby d4_9) rfl ((if0 _ _).trans (feq hc13).1) ?_
      show Steps p.tables e below (T12.setTop (mkF m 12 #[.val (.ref a1)] [(.long (w1.toInt64))])) t
      refine XS.iconst X12.here hx rfl (hb hby d4_12) ?_
      show Steps p.tables e below (T12.setTop (mkF m 13 #[.val (.ref a1)] [(.int (3 : Int32)), (.long (w1.toInt64))])) t
      refine XS.goto X12.here hx rfl (pc0 := 13) (pc' := 17) rfl (hb hby d4_13) (by decide) (by decide) ?_
      show Steps p.tables e below (T12.setTop (mkF m 17 #[.val (.ref a1)] [(.int (3 : Int32)), (.long (w1.toInt64))])) t
      refine XS.i2l X12.here hx rfl (hb hby d4_17) rfl ?_
      show Steps p.tables e below (T12.setTop (mkF m 18 #[.val (.ref a1)] [(.long ((3 : Int32).toInt64)), (.long (w1.toInt64))])) t
      refine XS.lmul X12.here hx rfl (hb hby d4_18) rfl ?_
      exact k
    refine WP.st bk15 ?_
    clear bk15
    subst hG
    obtain ⟨fs, hr, hrun, hended, hW, hsame⟩ := X12.leave (v := some (.long ((w1.toInt64) * ((3 : Int32).toInt64)))) (fun h => by rw [Bd.returns] at h; cases h)
    refine WP.fin ⟨_, _, ?_, hrun, hended, _, _, rfl, ?_, ⟨_, rfl⟩, hW, hsame.mono (by decide) (by decide)⟩
    · exact X12.lreturnOut hx Bd.returns (hb hby d4_19) hr
    · show Q4 Z a1 w1 w2 h0 n0 _ T12.heap _
      rw [e12]
      exact ⟨(by simp [hc13]), NF, rfl⟩
theorem ef_5 (m : MethodId) (a1 : Addr) : entryFrame m #[(.ref a1)] 1 = mkF m 0 #[.val (.ref a1)] [] := by first | (simp [entryFrame, mkF, argsToLocals, Value.category]; done) | rfl
theorem d5_0 : decode prog_166_method_6_code 0 = .ok (.aload_n 0, 1) := by decide +kernel
theorem d5_1 : decode prog_166_method_6_code 1 = .ok (.getfield 7, 3) := by decide +kernel
theorem d5_4 : decode prog_166_method_6_code 4 = .ok (.ireturn, 1) := by decide +kernel
def Q5 (Z : State) (a1 : Addr) (w1 : Int32) (h0 : Heap) (n0 : Nat) (v : Option Value) (h : Heap) (L : List Loc) : Prop := v = some (.int w1) ∧ Fr n0 L ∧ h = h0
set_option maxRecDepth 65536 in
set_option maxHeartbeats 40000000 in
theorem rm5 (l : Launch) (Z : State) (a0 : Array Value) (hw : ∀ d ∈ tables_1, d.before a0 Z = true) (ws : List Jvm.Cond) (a1 : Addr) (w1 : Int32) (h0 : Heap) (n0 : Nat) (Z0 : n0 ≤ h0.size) (F_a1_length : Fld Z h0 a1 "com/example/rows_by_reference/rowsbyreference/types/VarcharType" "length" "I" (.int w1)) :
    MetFree l (⟨"com/example/rows_by_reference/rowsbyreference/types/VarcharType", "precision", "()I"⟩ : MethodName) (head1 (Jvm.Cond.code (⟨"com/example/rows_by_reference/rowsbyreference/types/VarcharType", "precision", "()I"⟩ : MethodName) prog_166_method_6_code 1 (some .int) :: ws) ({ frames := 0, cells := 0, slots := 0, locals := 0 } : Room)) (fun a U => a = #[(.ref a1)] ∧ Z.Warmed39 U.vm ∧ U.heap = h0) (fun _ _ _ _ _ => True) (fun _ U o U' => ∃ v L, o = .returned v ∧ Q5 Z a1 w1 h0 n0 v U'.heap L ∧ FrameEnd U o U' L ({ frames := 0, cells := 0, slots := 0, locals := 0 } : Room).cells ({ frames := 0, cells := 0, slots := 0, locals := 0 } : Room).slots) := by
  refine MetFree.of_bodySF (plainFor_of_name pn_1) hisR ?_
  intro p e s m args below meth c s₁ Bd hml0 hP hK
  obtain ⟨rfl, hZ, hh⟩ := hP
  have hx := Bd.exec
  have hby := Bd.bytes
  have hml : c.maxLocals = 1 := hml0
  have hown : s.vm.findClass "com/example/rows_by_reference/rowsbyreference/types/VarcharType" = some m.cls := findClass_of_methodNamed Bd.named
  have hnm := (name_of_methodNamed Bd.named Bd.method).1
  have X0 : Stand p l e ({ frames := 0, cells := 0, slots := 0, locals := 0 } : Room) s m #[(.ref a1)] below meth c s₁ [] 0 0 := Stand.of_body Bd
  have e0 : s₁.heap = h0 := by rw [← hh, Bd.state]; rfl
  have NF := Fr.nil n0
  refine WP.go ?_
  refine WP.cast (ef_5 m a1) ?_
  refine WP.name ?_
  intro G hG
  have bk16 : ∀ t, Steps p.tables e below (s₁.setTop (mkF m 1 #[.val (.ref a1)] [(.ref a1)])) t → Steps p.tables e below (s₁.setTop (mkF m 0 #[.val (.ref a1)] [])) t := fun t k => by
    refine XS.aloadN X0.here hx rfl (hb hby d5_0) rfl rfl ?_
    exact k
  refine WP.st bk16 ?_
  clear bk16
  obtain ⟨T17, X17, e17, st17⟩ := getF X0 hx hZ hown (host := "") (Or.inl (hw _ (List.mem_of_getElem? (i := 14) rfl))) Via.refl e0 F_a1_length (g := (mkF m 1 #[.val (.ref a1)] [(.ref a1)])) rfl rfl (hb hby d5_1)
  refine WP.st st17 ?_
  clear st17
  show WP p.tables e below _ T17 (mkF m 4 #[.val (.ref a1)] [(.int w1)])
  subst hG
  obtain ⟨fs, hr, hrun, hended, hW, hsame⟩ := X17.leave (v := some (.int w1)) (fun h => by rw [Bd.returns] at h; cases h)
  refine WP.fin ⟨_, _, ?_, hrun, hended, _, _, rfl, ?_, ⟨_, rfl⟩, hW, hsame.mono (by decide) (by decide)⟩
  · exact retI X17 hx Bd.returns (hb hby d5_4) hr
  · show Q5 Z a1 w1 h0 n0 _ T17.heap _
    rw [e17]
    exact ⟨rfl, NF, rfl⟩
theorem own_m3 (x : Int64) : x * (if (1 : Int32) = 0 then (4 : Int32) else 3).toInt64 = x + x + x := by
  rw [show (if (1 : Int32) = 0 then (4 : Int32) else 3).toInt64 = 1 + 1 + 1 by decide, Int64.mul_add, Int64.mul_add, Int64.mul_one]
theorem own_m4 (x : Int64) : x * (if (0 : Int32) = 0 then (4 : Int32) else 3).toInt64 = x + x + x + x := by
  rw [show (if (0 : Int32) = 0 then (4 : Int32) else 3).toInt64 = 1 + 1 + 1 + 1 by decide, Int64.mul_add, Int64.mul_add, Int64.mul_add, Int64.mul_one]
theorem ef_0 (m : MethodId) (p1 : Int32) (p2 : Int32) : entryFrame m #[(.int p1), (.int p2)] maxLocals = mkF m 0 #[.val (.int p1), .val (.int p2), .unset, .unset, .unset, .unset, .unset, .unset] [] := by first | (simp [entryFrame, mkF, argsToLocals, Value.category, maxLocals]; done) | rfl
theorem pn_2 : plainName "com/example/rows_by_reference/rowsbyreference/types/VarcharTypeOctetLengthPinLaw" = true := by first | (simp [plainName, overriddenIn]; done) | decide +kernel
theorem pd_1 : parseMethodDescriptor "(IZ)V" = some ⟨[.int, .boolean], none⟩ := by decide +kernel
theorem pd_2 : parseMethodDescriptor "()J" = some ⟨[], some .long⟩ := by decide +kernel
theorem pd_3 : parseMethodDescriptor "()I" = some ⟨[], some .int⟩ := by decide +kernel
def Q0 (Z : State) (p1 : Int32) (p2 : Int32) (h0 : Heap) (n0 : Nat) (v : Option Value) (h : Heap) (L : List Loc) : Prop := v = some (.int 1) ∧ Fr n0 L
set_option maxRecDepth 65536 in
set_option maxHeartbeats 40000000 in
theorem rm0 (l : Launch) (Z : State) (a0 : Array Value) (hw : ∀ d ∈ tables_1, d.before a0 Z = true) (ws : List Jvm.Cond) (p1 : Int32) (p2 : Int32) (h0 : Heap) (n0 : Nat) (Z0 : n0 ≤ h0.size)  :
    MetFree l x (head1 (Jvm.Cond.code x code maxLocals ret :: ws) room_1) (fun a U => a = #[(.int p1), (.int p2)] ∧ Z.Warmed39 U.vm ∧ U.heap = h0) (fun _ _ _ _ _ => True) (fun _ U o U' => ∃ v L, o = .returned v ∧ Q0 Z p1 p2 h0 n0 v U'.heap L ∧ FrameEnd U o U' L room_1.cells room_1.slots) := by
  refine MetFree.of_bodySF (plainFor_of_name pn_2) hisR ?_
  intro p e s m args below meth c s₁ Bd hml0 hP hK
  obtain ⟨rfl, hZ, hh⟩ := hP
  have hx := Bd.exec
  have hby := Bd.bytes
  have hml : c.maxLocals = 8 := hml0
  have hown : s.vm.findClass "com/example/rows_by_reference/rowsbyreference/types/VarcharTypeOctetLengthPinLaw" = some m.cls := findClass_of_methodNamed Bd.named
  have hnm := (name_of_methodNamed Bd.named Bd.method).1
  have X0 : Stand p l e room_1 s m #[(.int p1), (.int p2)] below meth c s₁ [] 0 0 := Stand.of_body Bd
  have e0 : s₁.heap = h0 := by rw [← hh, Bd.state]; rfl
  have NF := Fr.nil n0
  refine WP.go ?_
  refine WP.cast (ef_0 m p1 p2) ?_
  refine WP.name ?_
  intro G hG
  have bk19 : ∀ t, Steps p.tables e below (s₁.setTop (mkF m 3 #[.val (.int p1), .val (.int p2), .unset, .unset, .unset, .unset, .unset, .unset] [(.int (p2 &&& (1 : Int32)))])) t → Steps p.tables e below (s₁.setTop (mkF m 0 #[.val (.int p1), .val (.int p2), .unset, .unset, .unset, .unset, .unset, .unset] [])) t := fun t k => by
    refine XS.iloadN X0.here hx rfl (hb hby at_0) rfl ?_
    show Steps p.tables e below (s₁.setTop (mkF m 1 #[.val (.int p1), .val (.int p2), .unset, .unset, .unset, .unset, .unset, .unset] [(.int p2)])) t
    refine XS.iconst X0.here hx rfl (hb hby at_1) ?_
    show Steps p.tables e below (s₁.setTop (mkF m 2 #[.val (.int p1), .val (.int p2), .unset, .unset, .unset, .unset, .unset, .unset] [(.int (1 : Int32)), (.int p2)])) t
    refine XS.iand X0.here hx rfl (hb hby at_2) rfl ?_
    exact k
  refine WP.st bk19 ?_
  clear bk19
  by_cases hc18 : (p2 &&& (1 : Int32)) = (0 : Int32)
  · skip
    have bk20 : ∀ t, Steps p.tables e below (s₁.setTop (mkF m 12 #[.val (.int p1), .val (.int p2), .val (.int (0 : Int32)), .unset, .unset, .unset, .unset, .unset] [])) t → Steps p.tables e below (s₁.setTop (mkF m 3 #[.val (.int p1), .val (.int p2), .unset, .unset, .unset, .unset, .unset, .unset] [(.int (p2 &&& (1 : Int32)))])) t := fun t k => by
      refine XS.ifYes X0.here hx rfl (pc0 := 3) (pc' := 10) rfl (hb hby at_3) rfl ((if0 _ _).trans (teq hc18).1) (by decide) (by decide) ?_
      show Steps p.tables e below (s₁.setTop (mkF m 10 #[.val (.int p1), .val (.int p2), .unset, .unset, .unset, .unset, .unset, .unset] [])) t
      refine XS.iconst X0.here hx rfl (hb hby at_10) ?_
      show Steps p.tables e below (s₁.setTop (mkF m 11 #[.val (.int p1), .val (.int p2), .unset, .unset, .unset, .unset, .unset, .unset] [(.int (0 : Int32))])) t
      refine XS.istoreN X0.here hx rfl (hb hby at_11) rfl (l' := #[.val (.int p1), .val (.int p2), .val (.int (0 : Int32)), .unset, .unset, .unset, .unset, .unset]) rfl ?_
      exact k
    refine WP.st bk20 ?_
    clear bk20
    obtain ⟨T21, h21, X21, e21, E21, A21, D21, -, st21⟩ := newO X0 hx hZ hown (hw _ (List.mem_of_getElem? (i := 0) rfl)) (hw _ (List.mem_of_getElem? (i := 1) rfl)) (hw _ (List.mem_of_getElem? (i := 2) rfl)) e0 (g := (mkF m 12 #[.val (.int p1), .val (.int p2), .val (.int (0 : Int32)), .unset, .unset, .unset, .unset, .unset] [])) rfl (hb hby at_12) (by decide) (by decide)
    obtain ⟨b21, g21⟩ : ∃ z, z = h0.size := ⟨_, rfl⟩
    rw [← g21] at A21 D21 st21
    refine WP.st st21 ?_
    clear st21
    have g_b21 : n0 ≤ b21 := Nat.le_trans Z0 (Nat.le_of_eq g21.symm)
    replace Z0 := Nat.le_trans Z0 E21.1
    have E_b21 := A21
    have F_b21_length : Fld Z h21 b21 "com/example/rows_by_reference/rowsbyreference/types/VarcharType" "length" "I" (.int (0 : Int32)) := D21 (Or.inr (hw _ (List.mem_of_getElem? (i := 15) rfl))) (ty := .int) (by decide)
    have F_b21_national : Fld Z h21 b21 "com/example/rows_by_reference/rowsbyreference/types/VarcharType" "national" "Z" (.int (0 : Int32)) := D21 (Or.inr (hw _ (List.mem_of_getElem? (i := 17) rfl))) (ty := .boolean) (by decide)
    clear D21 A21
    show WP p.tables e below _ T21 (mkF m 15 #[.val (.int p1), .val (.int p2), .val (.int (0 : Int32)), .unset, .unset, .unset, .unset, .unset] [(.ref b21)])
    have bk22 : ∀ t, Steps p.tables e below (T21.setTop (mkF m 18 #[.val (.int p1), .val (.int p2), .val (.int (0 : Int32)), .unset, .unset, .unset, .unset, .unset] [(.int (0 : Int32)), (.int p1), (.ref b21), (.ref b21)])) t → Steps p.tables e below (T21.setTop (mkF m 15 #[.val (.int p1), .val (.int p2), .val (.int (0 : Int32)), .unset, .unset, .unset, .unset, .unset] [(.ref b21)])) t := fun t k => by
      refine XS.dup X21.here hx rfl (hb hby at_15) rfl rfl ?_
      show Steps p.tables e below (T21.setTop (mkF m 16 #[.val (.int p1), .val (.int p2), .val (.int (0 : Int32)), .unset, .unset, .unset, .unset, .unset] [(.ref b21), (.ref b21)])) t
      refine XS.iloadN X21.here hx rfl (hb hby at_16) rfl ?_
      show Steps p.tables e below (T21.setTop (mkF m 17 #[.val (.int p1), .val (.int p2), .val (.int (0 : Int32)), .unset, .unset, .unset, .unset, .unset] [(.int p1), (.ref b21), (.ref b21)])) t
      refine XS.iloadN X21.here hx rfl (hb hby at_17) rfl ?_
      exact k
    refine WP.st bk22 ?_
    clear bk22
    obtain ⟨_, _, ⟨T23, L23, k23, n23⟩, -, X23, ⟨Lc23, hQ23, l23, y23, z23⟩, st23⟩ := X21.specialBack hx (y := (⟨"com/example/rows_by_reference/rowsbyreference/types/VarcharType", "<init>", "(IZ)V"⟩ : MethodName)) rfl hown (mvT hZ (hw _ (List.mem_of_getElem? (i := 3) rfl))) (mvT hZ (hw _ (List.mem_of_getElem? (i := 4) rfl))) (mvT hZ (hw _ (List.mem_of_getElem? (i := 5) rfl))) (by decide) (backOf (W := 1) (rm1 l Z a0 hw [] b21 p1 (0 : Int32) (0 : Int32) (0 : Int32) h21 n0 Z0 E_b21 g_b21 F_b21_length F_b21_national (by decide : (0 : Int32) = 0 ∨ (0 : Int32) = 1)) hZ (hw _ (List.mem_of_getElem? (i := 5) rfl)) (hw _ (List.mem_of_getElem? (i := 2) rfl)) (by decide) (by decide)) (g := (mkF m 18 #[.val (.int p1), .val (.int p2), .val (.int (0 : Int32)), .unset, .unset, .unset, .unset, .unset] [(.int (0 : Int32)), (.int p1), (.ref b21), (.ref b21)])) rfl (by rw [hml]; rfl) (Steps.refl _) (a := b21) (argsL := [(.int p1), (.int (0 : Int32))]) (rest := [(.ref b21)]) (lenOf pd_1 rfl) rfl (by show 2 * 0 + _ ≤ _; exact Nat.le_of_eq rfl) (hb hby at_18) (fun _ _ => ⟨rfl, e21, (by decide : 1 + 0 ≤ _), (by decide : 2 + 0 ≤ _)⟩)
    dsimp only [Pt.U, Pt.locs, Pt.cells, Pt.slots] at X23 l23 y23 z23 st23 hQ23
    subst l23 y23 z23
    obtain ⟨rfl, Nq23, Kq23, nF23_b21_length, nF23_b21_national⟩ := hQ23
    replace NF := Fr.app NF Nq23
    clear Nq23
    refine WP.tr st23 ?_
    clear st23
    obtain ⟨h23, e23⟩ : ∃ h, T23.heap = h := ⟨_, rfl⟩
    rw [e23] at Kq23 nF23_b21_length nF23_b21_national
    replace E_b21 := E_b21.keep Kq23
    clear F_b21_length
    clear F_b21_national
    replace Z0 := Nat.le_trans Z0 Kq23.1
    clear Kq23
    have F_b21_length := nF23_b21_length
    clear nF23_b21_length
    have F_b21_national := nF23_b21_national
    clear nF23_b21_national
    show WP p.tables e below _ T23 (mkF m 21 #[.val (.int p1), .val (.int p2), .val (.int (0 : Int32)), .unset, .unset, .unset, .unset, .unset] [(.ref b21)])
    have bk24 : ∀ t, Steps p.tables e below (T23.setTop (mkF m 55 #[.val (.int p1), .val (.int p2), .val (.int (0 : Int32)), .val (.ref b21), .val (.long (p1.toInt64)), .second, .val (.long ((((p1.toInt64) + (p1.toInt64)) + (p1.toInt64)) + (p1.toInt64))), .second] [(.ref b21)])) t → Steps p.tables e below (T23.setTop (mkF m 21 #[.val (.int p1), .val (.int p2), .val (.int (0 : Int32)), .unset, .unset, .unset, .unset, .unset] [(.ref b21)])) t := fun t k => by
      refine XS.astoreN X23.here hx rfl (hb hby at_21) rfl rfl (l' := #[.val (.int p1), .val (.int p2), .val (.int (0 : Int32)), .val (.ref b21), .unset, .unset, .unset, .unset]) rfl ?_
      show Steps p.tables e below (T23.setTop (mkF m 22 #[.val (.int p1), .val (.int p2), .val (.int (0 : Int32)), .val (.ref b21), .unset, .unset, .unset, .unset] [])) t
      refine XS.iloadN X23.here hx rfl (hb hby at_22) rfl ?_
      show Steps p.tables e below (T23.setTop (mkF m 23 #[.val (.int p1), .val (.int p2), .val (.int (0 : Int32)), .val (.ref b21), .unset, .unset, .unset, .unset] [(.int p1)])) t
      refine XS.i2l X23.here hx rfl (hb hby at_23) rfl ?_
      show Steps p.tables e below (T23.setTop (mkF m 24 #[.val (.int p1), .val (.int p2), .val (.int (0 : Int32)), .val (.ref b21), .unset, .unset, .unset, .unset] [(.long (p1.toInt64))])) t
      refine XS.lstore X23.here hx rfl (hb hby at_24) rfl (l' := #[.val (.int p1), .val (.int p2), .val (.int (0 : Int32)), .val (.ref b21), .val (.long (p1.toInt64)), .second, .unset, .unset]) rfl ?_
      show Steps p.tables e below (T23.setTop (mkF m 26 #[.val (.int p1), .val (.int p2), .val (.int (0 : Int32)), .val (.ref b21), .val (.long (p1.toInt64)), .second, .unset, .unset] [])) t
      refine XS.iloadN X23.here hx rfl (hb hby at_26) rfl ?_
      show Steps p.tables e below (T23.setTop (mkF m 27 #[.val (.int p1), .val (.int p2), .val (.int (0 : Int32)), .val (.ref b21), .val (.long (p1.toInt64)), .second, .unset, .unset] [(.int (0 : Int32))])) t
      refine XS.ifYes X23.here hx rfl (pc0 := 27) (pc' := 41) rfl (hb hby at_27) rfl ((if0 _ _).trans (teq (by decide : (0 : Int32) = (0 : Int32))).1) (by decide) (by decide) ?_
      show Steps p.tables e below (T23.setTop (mkF m 41 #[.val (.int p1), .val (.int p2), .val (.int (0 : Int32)), .val (.ref b21), .val (.long (p1.toInt64)), .second, .unset, .unset] [])) t
      refine XS.lload X23.here hx rfl (hb hby at_41) rfl ?_
      show Steps p.tables e below (T23.setTop (mkF m 43 #[.val (.int p1), .val (.int p2), .val (.int (0 : Int32)), .val (.ref b21), .val (.long (p1.toInt64)), .second, .unset, .unset] [(.long (p1.toInt64))])) t
      refine XS.lload X23.here hx rfl (hb hby at_43) rfl ?_
      show Steps p.tables e below (T23.setTop (mkF m 45 #[.val (.int p1), .val (.int p2), .val (.int (0 : Int32)), .val (.ref b21), .val (.long (p1.toInt64)), .second, .unset, .unset] [(.long (p1.toInt64)), (.long (p1.toInt64))])) t
      refine XS.ladd X23.here hx rfl (hb hby at_45) rfl ?_
      show Steps p.tables e below (T23.setTop (mkF m 46 #[.val (.int p1), .val (.int p2), .val (.int (0 : Int32)), .val (.ref b21), .val (.long (p1.toInt64)), .second, .unset, .unset] [(.long ((p1.toInt64) + (p1.toInt64)))])) t
      refine XS.lload X23.here hx rfl (hb hby at_46) rfl ?_
      show Steps p.tables e below (T23.setTop (mkF m 48 #[.val (.int p1), .val (.int p2), .val (.int (0 : Int32)), .val (.ref b21), .val (.long (p1.toInt64)), .second, .unset, .unset] [(.long (p1.toInt64)), (.long ((p1.toInt64) + (p1.toInt64)))])) t
      refine XS.ladd X23.here hx rfl (hb hby at_48) rfl ?_
      show Steps p.tables e below (T23.setTop (mkF m 49 #[.val (.int p1), .val (.int p2), .val (.int (0 : Int32)), .val (.ref b21), .val (.long (p1.toInt64)), .second, .unset, .unset] [(.long (((p1.toInt64) + (p1.toInt64)) + (p1.toInt64)))])) t
      refine XS.lload X23.here hx rfl (hb hby at_49) rfl ?_
      show Steps p.tables e below (T23.setTop (mkF m 51 #[.val (.int p1), .val (.int p2), .val (.int (0 : Int32)), .val (.ref b21), .val (.long (p1.toInt64)), .second, .unset, .unset] [(.long (p1.toInt64)), (.long (((p1.toInt64) + (p1.toInt64)) + (p1.toInt64)))])) t
      refine XS.ladd X23.here hx rfl (hb hby at_51) rfl ?_
      show Steps p.tables e below (T23.setTop (mkF m 52 #[.val (.int p1), .val (.int p2), .val (.int (0 : Int32)), .val (.ref b21), .val (.long (p1.toInt64)), .second, .unset, .unset] [(.long ((((p1.toInt64) + (p1.toInt64)) + (p1.toInt64)) + (p1.toInt64)))])) t
      refine XS.lstore X23.here hx rfl (hb hby at_52) rfl (l' := #[.val (.int p1), .val (.int p2), .val (.int (0 : Int32)), .val (.ref b21), .val (.long (p1.toInt64)), .second, .val (.long ((((p1.toInt64) + (p1.toInt64)) + (p1.toInt64)) + (p1.toInt64))), .second]) rfl ?_
      show Steps p.tables e below (T23.setTop (mkF m 54 #[.val (.int p1), .val (.int p2), .val (.int (0 : Int32)), .val (.ref b21), .val (.long (p1.toInt64)), .second, .val (.long ((((p1.toInt64) + (p1.toInt64)) + (p1.toInt64)) + (p1.toInt64))), .second] [])) t
      refine XS.aloadN X23.here hx rfl (hb hby at_54) rfl rfl ?_
      exact k
    refine WP.st bk24 ?_
    clear bk24
    obtain ⟨cq25, kq25, q25a, q25b, q25c⟩ := isOf hZ e23 E_b21
    obtain ⟨_, _, ⟨T25, L25, k25, n25⟩, -, X25, ⟨Lc25, hQ25, l25, y25, z25⟩, st25⟩ := X23.virtualBack hx (y := (⟨"com/example/rows_by_reference/rowsbyreference/types/VarcharType", "octetLength", "()J"⟩ : MethodName)) (z := (⟨"com/example/rows_by_reference/rowsbyreference/types/VarcharType", "octetLength", "()J"⟩ : MethodName)) hown (mvT hZ (hw _ (List.mem_of_getElem? (i := 18) rfl))) (mvT hZ (hw _ (List.mem_of_getElem? (i := 19) rfl))) (notFace_of_selects (args := #[]) (mvT hZ (hw _ (List.mem_of_getElem? (i := 21) rfl)))) (mvT hZ (hw _ (List.mem_of_getElem? (i := 21) rfl))) (mvT hZ (hw _ (List.mem_of_getElem? (i := 20) rfl))) (by decide) (backOf (W := 0) (rm4 l Z a0 hw [] b21 p1 (0 : Int32) h23 n0 Z0 F_b21_length F_b21_national) hZ (hw _ (List.mem_of_getElem? (i := 22) rfl)) (hw _ (List.mem_of_getElem? (i := 2) rfl)) (by decide) (by decide)) q25a q25c (g := (mkF m 55 #[.val (.int p1), .val (.int p2), .val (.int (0 : Int32)), .val (.ref b21), .val (.long (p1.toInt64)), .second, .val (.long ((((p1.toInt64) + (p1.toInt64)) + (p1.toInt64)) + (p1.toInt64))), .second] [(.ref b21)])) rfl (by rw [hml]; rfl) (Steps.refl _) (argsL := []) (rest := []) (lenOf pd_2 rfl) rfl (by show 2 * 0 + _ ≤ _; exact Nat.le_of_eq rfl) (hb hby at_55) (fun _ _ => ⟨rfl, e23, (by decide : 1 + 0 ≤ _), (by decide : 2 + 0 ≤ _)⟩)
    dsimp only [Pt.U, Pt.locs, Pt.cells, Pt.slots] at X25 l25 y25 z25 st25 hQ25
    subst l25 y25 z25
    obtain ⟨rfl, Nq25, Kq25⟩ := hQ25
    replace NF := Fr.app NF Nq25
    clear Nq25
    refine WP.tr st25 ?_
    clear st25
    replace Kq25 := Kq25.trans (rfl : h23 = h23)
    show WP p.tables e below _ T25 (mkF m 58 #[.val (.int p1), .val (.int p2), .val (.int (0 : Int32)), .val (.ref b21), .val (.long (p1.toInt64)), .second, .val (.long ((((p1.toInt64) + (p1.toInt64)) + (p1.toInt64)) + (p1.toInt64))), .second] [(.long (p1.toInt64 * (if (0 : Int32) = 0 then (4 : Int32) else 3).toInt64))])
    have bk26 : ∀ t, Steps p.tables e below (T25.setTop (mkF m 65 #[.val (.int p1), .val (.int p2), .val (.int (0 : Int32)), .val (.ref b21), .val (.long (p1.toInt64)), .second, .val (.long ((((p1.toInt64) + (p1.toInt64)) + (p1.toInt64)) + (p1.toInt64))), .second] [(.ref b21)])) t → Steps p.tables e below (T25.setTop (mkF m 58 #[.val (.int p1), .val (.int p2), .val (.int (0 : Int32)), .val (.ref b21), .val (.long (p1.toInt64)), .second, .val (.long ((((p1.toInt64) + (p1.toInt64)) + (p1.toInt64)) + (p1.toInt64))), .second] [(.long (p1.toInt64 * (if (0 : Int32) = 0 then (4 : Int32) else 3).toInt64))])) t := fun t k => by
      refine XS.lload X25.here hx rfl (hb hby at_58) rfl ?_
      show Steps p.tables e below (T25.setTop (mkF m 60 #[.val (.int p1), .val (.int p2), .val (.int (0 : Int32)), .val (.ref b21), .val (.long (p1.toInt64)), .second, .val (.long ((((p1.toInt64) + (p1.toInt64)) + (p1.toInt64)) + (p1.toInt64))), .second] [(.long ((((p1.toInt64) + (p1.toInt64)) + (p1.toInt64)) + (p1.toInt64))), (.long (p1.toInt64 * (if (0 : Int32) = 0 then (4 : Int32) else 3).toInt64))])) t
      refine XS.lcmp X25.here hx rfl (hb hby at_60) rfl ?_
      show Steps p.tables e below (T25.setTop (mkF m 61 #[.val (.int p1), .val (.int p2), .val (.int (0 : Int32)), .val (.ref b21), .val (.long (p1.toInt64)), .second, .val (.long ((((p1.toInt64) + (p1.toInt64)) + (p1.toInt64)) + (p1.toInt64))), .second] [(.int (lcmpW (p1.toInt64 * (if (0 : Int32) = 0 then (4 : Int32) else 3).toInt64) ((((p1.toInt64) + (p1.toInt64)) + (p1.toInt64)) + (p1.toInt64))))])) t
      refine XS.ifNo X25.here hx rfl (hb hby at_61) rfl ((if0 _ _).trans (teq ((lw_eq _ _).2 (own_m4 _))).2) ?_
      show Steps p.tables e below (T25.setTop (mkF m 64 #[.val (.int p1), .val (.int p2), .val (.int (0 : Int32)), .val (.ref b21), .val (.long (p1.toInt64)), .second, .val (.long ((((p1.toInt64) + (p1.toInt64)) + (p1.toInt64)) + (p1.toInt64))), .second] [])) t
      refine XS.aloadN X25.here hx rfl (hb hby at_64) rfl rfl ?_
      exact k
    refine WP.st bk26 ?_
    clear bk26
    obtain ⟨cq27, kq27, q27a, q27b, q27c⟩ := isOf hZ Kq25 E_b21
    obtain ⟨_, _, ⟨T27, L27, k27, n27⟩, -, X27, ⟨Lc27, hQ27, l27, y27, z27⟩, st27⟩ := X25.virtualBack hx (y := (⟨"com/example/rows_by_reference/rowsbyreference/types/VarcharType", "precision", "()I"⟩ : MethodName)) (z := (⟨"com/example/rows_by_reference/rowsbyreference/types/VarcharType", "precision", "()I"⟩ : MethodName)) hown (mvT hZ (hw _ (List.mem_of_getElem? (i := 23) rfl))) (mvT hZ (hw _ (List.mem_of_getElem? (i := 24) rfl))) (notFace_of_selects (args := #[]) (mvT hZ (hw _ (List.mem_of_getElem? (i := 26) rfl)))) (mvT hZ (hw _ (List.mem_of_getElem? (i := 26) rfl))) (mvT hZ (hw _ (List.mem_of_getElem? (i := 25) rfl))) (by decide) (backOf (W := 0) (rm5 l Z a0 hw [] b21 p1 h23 n0 Z0 F_b21_length) hZ (hw _ (List.mem_of_getElem? (i := 27) rfl)) (hw _ (List.mem_of_getElem? (i := 2) rfl)) (by decide) (by decide)) q27a q27c (g := (mkF m 65 #[.val (.int p1), .val (.int p2), .val (.int (0 : Int32)), .val (.ref b21), .val (.long (p1.toInt64)), .second, .val (.long ((((p1.toInt64) + (p1.toInt64)) + (p1.toInt64)) + (p1.toInt64))), .second] [(.ref b21)])) rfl (by rw [hml]; rfl) (Steps.refl _) (argsL := []) (rest := []) (lenOf pd_3 rfl) rfl (by show 2 * 0 + _ ≤ _; exact Nat.le_of_eq rfl) (hb hby at_65) (fun _ _ => ⟨rfl, Kq25, (by decide : 1 + 0 ≤ _), (by decide : 2 + 0 ≤ _)⟩)
    dsimp only [Pt.U, Pt.locs, Pt.cells, Pt.slots] at X27 l27 y27 z27 st27 hQ27
    subst l27 y27 z27
    obtain ⟨rfl, Nq27, Kq27⟩ := hQ27
    replace NF := Fr.app NF Nq27
    clear Nq27
    refine WP.tr st27 ?_
    clear st27
    replace Kq27 := Kq27.trans (rfl : h23 = h23)
    show WP p.tables e below _ T27 (mkF m 68 #[.val (.int p1), .val (.int p2), .val (.int (0 : Int32)), .val (.ref b21), .val (.long (p1.toInt64)), .second, .val (.long ((((p1.toInt64) + (p1.toInt64)) + (p1.toInt64)) + (p1.toInt64))), .second] [(.int p1)])
    have bk28 : ∀ t, Steps p.tables e below (T27.setTop (mkF m 77 #[.val (.int p1), .val (.int p2), .val (.int (0 : Int32)), .val (.ref b21), .val (.long (p1.toInt64)), .second, .val (.long ((((p1.toInt64) + (p1.toInt64)) + (p1.toInt64)) + (p1.toInt64))), .second] [(.int (1 : Int32))])) t → Steps p.tables e below (T27.setTop (mkF m 68 #[.val (.int p1), .val (.int p2), .val (.int (0 : Int32)), .val (.ref b21), .val (.long (p1.toInt64)), .second, .val (.long ((((p1.toInt64) + (p1.toInt64)) + (p1.toInt64)) + (p1.toInt64))), .second] [(.int p1)])) t := fun t k => by
      refine XS.iloadN X27.here hx rfl (hb hby at_68) rfl ?_
      show Steps p.tables e below (T27.setTop (mkF m 69 #[.val (.int p1), .val (.int p2), .val (.int (0 : Int32)), .val (.ref b21), .val (.long (p1.toInt64)), .second, .val (.long ((((p1.toInt64) + (p1.toInt64)) + (p1.toInt64)) + (p1.toInt64))), .second] [(.int p1), (.int p1)])) t
      refine XS.icmpNo X27.here hx rfl (hb hby at_69) rfl (teq (rfl : p1 = p1)).2 ?_
      show Steps p.tables e below (T27.setTop (mkF m 72 #[.val (.int p1), .val (.int p2), .val (.int (0 : Int32)), .val (.ref b21), .val (.long (p1.toInt64)), .second, .val (.long ((((p1.toInt64) + (p1.toInt64)) + (p1.toInt64)) + (p1.toInt64))), .second] [])) t
      refine XS.iconst X27.here hx rfl (hb hby at_72) ?_
      show Steps p.tables e below (T27.setTop (mkF m 73 #[.val (.int p1), .val (.int p2), .val (.int (0 : Int32)), .val (.ref b21), .val (.long (p1.toInt64)), .second, .val (.long ((((p1.toInt64) + (p1.toInt64)) + (p1.toInt64)) + (p1.toInt64))), .second] [(.int (1 : Int32))])) t
      refine XS.goto X27.here hx rfl (pc0 := 73) (pc' := 77) rfl (hb hby at_73) (by decide) (by decide) ?_
      exact k
    refine WP.st bk28 ?_
    clear bk28
    subst hG
    obtain ⟨fs, hr, hrun, hended, hW, hsame⟩ := X27.leave (v := some (.int (1 : Int32))) (fun h => by rw [Bd.returns] at h; cases h)
    refine WP.fin ⟨_, _, ?_, hrun, hended, _, _, rfl, ?_, ⟨_, rfl⟩, hW, hsame.mono (by decide) (by decide)⟩
    · exact retN X27 hx (t := .boolean) Bd.returns (by simp) (hb hby at_77) hr
    · show Q0 Z p1 p2 h0 n0 _ T27.heap _
      rw [Kq27]
      exact ⟨rfl, NF⟩
  · skip
    have bk29 : ∀ t, Steps p.tables e below (s₁.setTop (mkF m 12 #[.val (.int p1), .val (.int p2), .val (.int (1 : Int32)), .unset, .unset, .unset, .unset, .unset] [])) t → Steps p.tables e below (s₁.setTop (mkF m 3 #[.val (.int p1), .val (.int p2), .unset, .unset, .unset, .unset, .unset, .unset] [(.int (p2 &&& (1 : Int32)))])) t := fun t k => by
      refine XS.ifNo X0.here hx rfl (hb hby at_3) rfl ((if0 _ _).trans (feq hc18).1) ?_
      show Steps p.tables e below (s₁.setTop (mkF m 6 #[.val (.int p1), .val (.int p2), .unset, .unset, .unset, .unset, .unset, .unset] [])) t
      refine XS.iconst X0.here hx rfl (hb hby at_6) ?_
      show Steps p.tables e below (s₁.setTop (mkF m 7 #[.val (.int p1), .val (.int p2), .unset, .unset, .unset, .unset, .unset, .unset] [(.int (1 : Int32))])) t
      refine XS.goto X0.here hx rfl (pc0 := 7) (pc' := 11) rfl (hb hby at_7) (by decide) (by decide) ?_
      show Steps p.tables e below (s₁.setTop (mkF m 11 #[.val (.int p1), .val (.int p2), .unset, .unset, .unset, .unset, .unset, .unset] [(.int (1 : Int32))])) t
      refine XS.istoreN X0.here hx rfl (hb hby at_11) rfl (l' := #[.val (.int p1), .val (.int p2), .val (.int (1 : Int32)), .unset, .unset, .unset, .unset, .unset]) rfl ?_
      exact k
    refine WP.st bk29 ?_
    clear bk29
    obtain ⟨T30, h30, X30, e30, E30, A30, D30, -, st30⟩ := newO X0 hx hZ hown (hw _ (List.mem_of_getElem? (i := 0) rfl)) (hw _ (List.mem_of_getElem? (i := 1) rfl)) (hw _ (List.mem_of_getElem? (i := 2) rfl)) e0 (g := (mkF m 12 #[.val (.int p1), .val (.int p2), .val (.int (1 : Int32)), .unset, .unset, .unset, .unset, .unset] [])) rfl (hb hby at_12) (by decide) (by decide)
    obtain ⟨b30, g30⟩ : ∃ z, z = h0.size := ⟨_, rfl⟩
    rw [← g30] at A30 D30 st30
    refine WP.st st30 ?_
    clear st30
    have g_b30 : n0 ≤ b30 := Nat.le_trans Z0 (Nat.le_of_eq g30.symm)
    replace Z0 := Nat.le_trans Z0 E30.1
    have E_b30 := A30
    have F_b30_length : Fld Z h30 b30 "com/example/rows_by_reference/rowsbyreference/types/VarcharType" "length" "I" (.int (0 : Int32)) := D30 (Or.inr (hw _ (List.mem_of_getElem? (i := 15) rfl))) (ty := .int) (by decide)
    have F_b30_national : Fld Z h30 b30 "com/example/rows_by_reference/rowsbyreference/types/VarcharType" "national" "Z" (.int (0 : Int32)) := D30 (Or.inr (hw _ (List.mem_of_getElem? (i := 17) rfl))) (ty := .boolean) (by decide)
    clear D30 A30
    show WP p.tables e below _ T30 (mkF m 15 #[.val (.int p1), .val (.int p2), .val (.int (1 : Int32)), .unset, .unset, .unset, .unset, .unset] [(.ref b30)])
    have bk31 : ∀ t, Steps p.tables e below (T30.setTop (mkF m 18 #[.val (.int p1), .val (.int p2), .val (.int (1 : Int32)), .unset, .unset, .unset, .unset, .unset] [(.int (1 : Int32)), (.int p1), (.ref b30), (.ref b30)])) t → Steps p.tables e below (T30.setTop (mkF m 15 #[.val (.int p1), .val (.int p2), .val (.int (1 : Int32)), .unset, .unset, .unset, .unset, .unset] [(.ref b30)])) t := fun t k => by
      refine XS.dup X30.here hx rfl (hb hby at_15) rfl rfl ?_
      show Steps p.tables e below (T30.setTop (mkF m 16 #[.val (.int p1), .val (.int p2), .val (.int (1 : Int32)), .unset, .unset, .unset, .unset, .unset] [(.ref b30), (.ref b30)])) t
      refine XS.iloadN X30.here hx rfl (hb hby at_16) rfl ?_
      show Steps p.tables e below (T30.setTop (mkF m 17 #[.val (.int p1), .val (.int p2), .val (.int (1 : Int32)), .unset, .unset, .unset, .unset, .unset] [(.int p1), (.ref b30), (.ref b30)])) t
      refine XS.iloadN X30.here hx rfl (hb hby at_17) rfl ?_
      exact k
    refine WP.st bk31 ?_
    clear bk31
    obtain ⟨_, _, ⟨T32, L32, k32, n32⟩, -, X32, ⟨Lc32, hQ32, l32, y32, z32⟩, st32⟩ := X30.specialBack hx (y := (⟨"com/example/rows_by_reference/rowsbyreference/types/VarcharType", "<init>", "(IZ)V"⟩ : MethodName)) rfl hown (mvT hZ (hw _ (List.mem_of_getElem? (i := 3) rfl))) (mvT hZ (hw _ (List.mem_of_getElem? (i := 4) rfl))) (mvT hZ (hw _ (List.mem_of_getElem? (i := 5) rfl))) (by decide) (backOf (W := 1) (rm1 l Z a0 hw [] b30 p1 (1 : Int32) (0 : Int32) (0 : Int32) h30 n0 Z0 E_b30 g_b30 F_b30_length F_b30_national (by decide : (1 : Int32) = 0 ∨ (1 : Int32) = 1)) hZ (hw _ (List.mem_of_getElem? (i := 5) rfl)) (hw _ (List.mem_of_getElem? (i := 2) rfl)) (by decide) (by decide)) (g := (mkF m 18 #[.val (.int p1), .val (.int p2), .val (.int (1 : Int32)), .unset, .unset, .unset, .unset, .unset] [(.int (1 : Int32)), (.int p1), (.ref b30), (.ref b30)])) rfl (by rw [hml]; rfl) (Steps.refl _) (a := b30) (argsL := [(.int p1), (.int (1 : Int32))]) (rest := [(.ref b30)]) (lenOf pd_1 rfl) rfl (by show 2 * 0 + _ ≤ _; exact Nat.le_of_eq rfl) (hb hby at_18) (fun _ _ => ⟨rfl, e30, (by decide : 1 + 0 ≤ _), (by decide : 2 + 0 ≤ _)⟩)
    dsimp only [Pt.U, Pt.locs, Pt.cells, Pt.slots] at X32 l32 y32 z32 st32 hQ32
    subst l32 y32 z32
    obtain ⟨rfl, Nq32, Kq32, nF32_b30_length, nF32_b30_national⟩ := hQ32
    replace NF := Fr.app NF Nq32
    clear Nq32
    refine WP.tr st32 ?_
    clear st32
    obtain ⟨h32, e32⟩ : ∃ h, T32.heap = h := ⟨_, rfl⟩
    rw [e32] at Kq32 nF32_b30_length nF32_b30_national
    replace E_b30 := E_b30.keep Kq32
    clear F_b30_length
    clear F_b30_national
    replace Z0 := Nat.le_trans Z0 Kq32.1
    clear Kq32
    have F_b30_length := nF32_b30_length
    clear nF32_b30_length
    have F_b30_national := nF32_b30_national
    clear nF32_b30_national
    show WP p.tables e below _ T32 (mkF m 21 #[.val (.int p1), .val (.int p2), .val (.int (1 : Int32)), .unset, .unset, .unset, .unset, .unset] [(.ref b30)])
    have bk33 : ∀ t, Steps p.tables e below (T32.setTop (mkF m 55 #[.val (.int p1), .val (.int p2), .val (.int (1 : Int32)), .val (.ref b30), .val (.long (p1.toInt64)), .second, .val (.long (((p1.toInt64) + (p1.toInt64)) + (p1.toInt64))), .second] [(.ref b30)])) t → Steps p.tables e below (T32.setTop (mkF m 21 #[.val (.int p1), .val (.int p2), .val (.int (1 : Int32)), .unset, .unset, .unset, .unset, .unset] [(.ref b30)])) t := fun t k => by
      refine XS.astoreN X32.here hx rfl (hb hby at_21) rfl rfl (l' := #[.val (.int p1), .val (.int p2), .val (.int (1 : Int32)), .val (.ref b30), .unset, .unset, .unset, .unset]) rfl ?_
      show Steps p.tables e below (T32.setTop (mkF m 22 #[.val (.int p1), .val (.int p2), .val (.int (1 : Int32)), .val (.ref b30), .unset, .unset, .unset, .unset] [])) t
      refine XS.iloadN X32.here hx rfl (hb hby at_22) rfl ?_
      show Steps p.tables e below (T32.setTop (mkF m 23 #[.val (.int p1), .val (.int p2), .val (.int (1 : Int32)), .val (.ref b30), .unset, .unset, .unset, .unset] [(.int p1)])) t
      refine XS.i2l X32.here hx rfl (hb hby at_23) rfl ?_
      show Steps p.tables e below (T32.setTop (mkF m 24 #[.val (.int p1), .val (.int p2), .val (.int (1 : Int32)), .val (.ref b30), .unset, .unset, .unset, .unset] [(.long (p1.toInt64))])) t
      refine XS.lstore X32.here hx rfl (hb hby at_24) rfl (l' := #[.val (.int p1), .val (.int p2), .val (.int (1 : Int32)), .val (.ref b30), .val (.long (p1.toInt64)), .second, .unset, .unset]) rfl ?_
      show Steps p.tables e below (T32.setTop (mkF m 26 #[.val (.int p1), .val (.int p2), .val (.int (1 : Int32)), .val (.ref b30), .val (.long (p1.toInt64)), .second, .unset, .unset] [])) t
      refine XS.iloadN X32.here hx rfl (hb hby at_26) rfl ?_
      show Steps p.tables e below (T32.setTop (mkF m 27 #[.val (.int p1), .val (.int p2), .val (.int (1 : Int32)), .val (.ref b30), .val (.long (p1.toInt64)), .second, .unset, .unset] [(.int (1 : Int32))])) t
      refine XS.ifNo X32.here hx rfl (hb hby at_27) rfl ((if0 _ _).trans (feq (by decide : ¬ ((1 : Int32) = (0 : Int32)))).1) ?_
      show Steps p.tables e below (T32.setTop (mkF m 30 #[.val (.int p1), .val (.int p2), .val (.int (1 : Int32)), .val (.ref b30), .val (.long (p1.toInt64)), .second, .unset, .unset] [])) t
      refine XS.lload X32.here hx rfl (hb hby at_30) rfl ?_
      show Steps p.tables e below (T32.setTop (mkF m 32 #[.val (.int p1), .val (.int p2), .val (.int (1 : Int32)), .val (.ref b30), .val (.long (p1.toInt64)), .second, .unset, .unset] [(.long (p1.toInt64))])) t
      refine XS.lload X32.here hx rfl (hb hby at_32) rfl ?_
      show Steps p.tables e below (T32.setTop (mkF m 34 #[.val (.int p1), .val (.int p2), .val (.int (1 : Int32)), .val (.ref b30), .val (.long (p1.toInt64)), .second, .unset, .unset] [(.long (p1.toInt64)), (.long (p1.toInt64))])) t
      refine XS.ladd X32.here hx rfl (hb hby at_34) rfl ?_
      show Steps p.tables e below (T32.setTop (mkF m 35 #[.val (.int p1), .val (.int p2), .val (.int (1 : Int32)), .val (.ref b30), .val (.long (p1.toInt64)), .second, .unset, .unset] [(.long ((p1.toInt64) + (p1.toInt64)))])) t
      refine XS.lload X32.here hx rfl (hb hby at_35) rfl ?_
      show Steps p.tables e below (T32.setTop (mkF m 37 #[.val (.int p1), .val (.int p2), .val (.int (1 : Int32)), .val (.ref b30), .val (.long (p1.toInt64)), .second, .unset, .unset] [(.long (p1.toInt64)), (.long ((p1.toInt64) + (p1.toInt64)))])) t
      refine XS.ladd X32.here hx rfl (hb hby at_37) rfl ?_
      show Steps p.tables e below (T32.setTop (mkF m 38 #[.val (.int p1), .val (.int p2), .val (.int (1 : Int32)), .val (.ref b30), .val (.long (p1.toInt64)), .second, .unset, .unset] [(.long (((p1.toInt64) + (p1.toInt64)) + (p1.toInt64)))])) t
      refine XS.goto X32.here hx rfl (pc0 := 38) (pc' := 52) rfl (hb hby at_38) (by decide) (by decide) ?_
      show Steps p.tables e below (T32.setTop (mkF m 52 #[.val (.int p1), .val (.int p2), .val (.int (1 : Int32)), .val (.ref b30), .val (.long (p1.toInt64)), .second, .unset, .unset] [(.long (((p1.toInt64) + (p1.toInt64)) + (p1.toInt64)))])) t
      refine XS.lstore X32.here hx rfl (hb hby at_52) rfl (l' := #[.val (.int p1), .val (.int p2), .val (.int (1 : Int32)), .val (.ref b30), .val (.long (p1.toInt64)), .second, .val (.long (((p1.toInt64) + (p1.toInt64)) + (p1.toInt64))), .second]) rfl ?_
      show Steps p.tables e below (T32.setTop (mkF m 54 #[.val (.int p1), .val (.int p2), .val (.int (1 : Int32)), .val (.ref b30), .val (.long (p1.toInt64)), .second, .val (.long (((p1.toInt64) + (p1.toInt64)) + (p1.toInt64))), .second] [])) t
      refine XS.aloadN X32.here hx rfl (hb hby at_54) rfl rfl ?_
      exact k
    refine WP.st bk33 ?_
    clear bk33
    obtain ⟨cq34, kq34, q34a, q34b, q34c⟩ := isOf hZ e32 E_b30
    obtain ⟨_, _, ⟨T34, L34, k34, n34⟩, -, X34, ⟨Lc34, hQ34, l34, y34, z34⟩, st34⟩ := X32.virtualBack hx (y := (⟨"com/example/rows_by_reference/rowsbyreference/types/VarcharType", "octetLength", "()J"⟩ : MethodName)) (z := (⟨"com/example/rows_by_reference/rowsbyreference/types/VarcharType", "octetLength", "()J"⟩ : MethodName)) hown (mvT hZ (hw _ (List.mem_of_getElem? (i := 18) rfl))) (mvT hZ (hw _ (List.mem_of_getElem? (i := 19) rfl))) (notFace_of_selects (args := #[]) (mvT hZ (hw _ (List.mem_of_getElem? (i := 21) rfl)))) (mvT hZ (hw _ (List.mem_of_getElem? (i := 21) rfl))) (mvT hZ (hw _ (List.mem_of_getElem? (i := 20) rfl))) (by decide) (backOf (W := 0) (rm4 l Z a0 hw [] b30 p1 (1 : Int32) h32 n0 Z0 F_b30_length F_b30_national) hZ (hw _ (List.mem_of_getElem? (i := 22) rfl)) (hw _ (List.mem_of_getElem? (i := 2) rfl)) (by decide) (by decide)) q34a q34c (g := (mkF m 55 #[.val (.int p1), .val (.int p2), .val (.int (1 : Int32)), .val (.ref b30), .val (.long (p1.toInt64)), .second, .val (.long (((p1.toInt64) + (p1.toInt64)) + (p1.toInt64))), .second] [(.ref b30)])) rfl (by rw [hml]; rfl) (Steps.refl _) (argsL := []) (rest := []) (lenOf pd_2 rfl) rfl (by show 2 * 0 + _ ≤ _; exact Nat.le_of_eq rfl) (hb hby at_55) (fun _ _ => ⟨rfl, e32, (by decide : 1 + 0 ≤ _), (by decide : 2 + 0 ≤ _)⟩)
    dsimp only [Pt.U, Pt.locs, Pt.cells, Pt.slots] at X34 l34 y34 z34 st34 hQ34
    subst l34 y34 z34
    obtain ⟨rfl, Nq34, Kq34⟩ := hQ34
    replace NF := Fr.app NF Nq34
    clear Nq34
    refine WP.tr st34 ?_
    clear st34
    replace Kq34 := Kq34.trans (rfl : h32 = h32)
    show WP p.tables e below _ T34 (mkF m 58 #[.val (.int p1), .val (.int p2), .val (.int (1 : Int32)), .val (.ref b30), .val (.long (p1.toInt64)), .second, .val (.long (((p1.toInt64) + (p1.toInt64)) + (p1.toInt64))), .second] [(.long (p1.toInt64 * (if (1 : Int32) = 0 then (4 : Int32) else 3).toInt64))])
    have bk35 : ∀ t, Steps p.tables e below (T34.setTop (mkF m 65 #[.val (.int p1), .val (.int p2), .val (.int (1 : Int32)), .val (.ref b30), .val (.long (p1.toInt64)), .second, .val (.long (((p1.toInt64) + (p1.toInt64)) + (p1.toInt64))), .second] [(.ref b30)])) t → Steps p.tables e below (T34.setTop (mkF m 58 #[.val (.int p1), .val (.int p2), .val (.int (1 : Int32)), .val (.ref b30), .val (.long (p1.toInt64)), .second, .val (.long (((p1.toInt64) + (p1.toInt64)) + (p1.toInt64))), .second] [(.long (p1.toInt64 * (if (1 : Int32) = 0 then (4 : Int32) else 3).toInt64))])) t := fun t k => by
      refine XS.lload X34.here hx rfl (hb hby at_58) rfl ?_
      show Steps p.tables e below (T34.setTop (mkF m 60 #[.val (.int p1), .val (.int p2), .val (.int (1 : Int32)), .val (.ref b30), .val (.long (p1.toInt64)), .second, .val (.long (((p1.toInt64) + (p1.toInt64)) + (p1.toInt64))), .second] [(.long (((p1.toInt64) + (p1.toInt64)) + (p1.toInt64))), (.long (p1.toInt64 * (if (1 : Int32) = 0 then (4 : Int32) else 3).toInt64))])) t
      refine XS.lcmp X34.here hx rfl (hb hby at_60) rfl ?_
      show Steps p.tables e below (T34.setTop (mkF m 61 #[.val (.int p1), .val (.int p2), .val (.int (1 : Int32)), .val (.ref b30), .val (.long (p1.toInt64)), .second, .val (.long (((p1.toInt64) + (p1.toInt64)) + (p1.toInt64))), .second] [(.int (lcmpW (p1.toInt64 * (if (1 : Int32) = 0 then (4 : Int32) else 3).toInt64) (((p1.toInt64) + (p1.toInt64)) + (p1.toInt64))))])) t
      refine XS.ifNo X34.here hx rfl (hb hby at_61) rfl ((if0 _ _).trans (teq ((lw_eq _ _).2 (own_m3 _))).2) ?_
      show Steps p.tables e below (T34.setTop (mkF m 64 #[.val (.int p1), .val (.int p2), .val (.int (1 : Int32)), .val (.ref b30), .val (.long (p1.toInt64)), .second, .val (.long (((p1.toInt64) + (p1.toInt64)) + (p1.toInt64))), .second] [])) t
      refine XS.aloadN X34.here hx rfl (hb hby at_64) rfl rfl ?_
      exact k
    refine WP.st bk35 ?_
    clear bk35
    obtain ⟨cq36, kq36, q36a, q36b, q36c⟩ := isOf hZ Kq34 E_b30
    obtain ⟨_, _, ⟨T36, L36, k36, n36⟩, -, X36, ⟨Lc36, hQ36, l36, y36, z36⟩, st36⟩ := X34.virtualBack hx (y := (⟨"com/example/rows_by_reference/rowsbyreference/types/VarcharType", "precision", "()I"⟩ : MethodName)) (z := (⟨"com/example/rows_by_reference/rowsbyreference/types/VarcharType", "precision", "()I"⟩ : MethodName)) hown (mvT hZ (hw _ (List.mem_of_getElem? (i := 23) rfl))) (mvT hZ (hw _ (List.mem_of_getElem? (i := 24) rfl))) (notFace_of_selects (args := #[]) (mvT hZ (hw _ (List.mem_of_getElem? (i := 26) rfl)))) (mvT hZ (hw _ (List.mem_of_getElem? (i := 26) rfl))) (mvT hZ (hw _ (List.mem_of_getElem? (i := 25) rfl))) (by decide) (backOf (W := 0) (rm5 l Z a0 hw [] b30 p1 h32 n0 Z0 F_b30_length) hZ (hw _ (List.mem_of_getElem? (i := 27) rfl)) (hw _ (List.mem_of_getElem? (i := 2) rfl)) (by decide) (by decide)) q36a q36c (g := (mkF m 65 #[.val (.int p1), .val (.int p2), .val (.int (1 : Int32)), .val (.ref b30), .val (.long (p1.toInt64)), .second, .val (.long (((p1.toInt64) + (p1.toInt64)) + (p1.toInt64))), .second] [(.ref b30)])) rfl (by rw [hml]; rfl) (Steps.refl _) (argsL := []) (rest := []) (lenOf pd_3 rfl) rfl (by show 2 * 0 + _ ≤ _; exact Nat.le_of_eq rfl) (hb hby at_65) (fun _ _ => ⟨rfl, Kq34, (by decide : 1 + 0 ≤ _), (by decide : 2 + 0 ≤ _)⟩)
    dsimp only [Pt.U, Pt.locs, Pt.cells, Pt.slots] at X36 l36 y36 z36 st36 hQ36
    subst l36 y36 z36
    obtain ⟨rfl, Nq36, Kq36⟩ := hQ36
    replace NF := Fr.app NF Nq36
    clear Nq36
    refine WP.tr st36 ?_
    clear st36
    replace Kq36 := Kq36.trans (rfl : h32 = h32)
    show WP p.tables e below _ T36 (mkF m 68 #[.val (.int p1), .val (.int p2), .val (.int (1 : Int32)), .val (.ref b30), .val (.long (p1.toInt64)), .second, .val (.long (((p1.toInt64) + (p1.toInt64)) + (p1.toInt64))), .second] [(.int p1)])
    have bk37 : ∀ t, Steps p.tables e below (T36.setTop (mkF m 77 #[.val (.int p1), .val (.int p2), .val (.int (1 : Int32)), .val (.ref b30), .val (.long (p1.toInt64)), .second, .val (.long (((p1.toInt64) + (p1.toInt64)) + (p1.toInt64))), .second] [(.int (1 : Int32))])) t → Steps p.tables e below (T36.setTop (mkF m 68 #[.val (.int p1), .val (.int p2), .val (.int (1 : Int32)), .val (.ref b30), .val (.long (p1.toInt64)), .second, .val (.long (((p1.toInt64) + (p1.toInt64)) + (p1.toInt64))), .second] [(.int p1)])) t := fun t k => by
      refine XS.iloadN X36.here hx rfl (hb hby at_68) rfl ?_
      show Steps p.tables e below (T36.setTop (mkF m 69 #[.val (.int p1), .val (.int p2), .val (.int (1 : Int32)), .val (.ref b30), .val (.long (p1.toInt64)), .second, .val (.long (((p1.toInt64) + (p1.toInt64)) + (p1.toInt64))), .second] [(.int p1), (.int p1)])) t
      refine XS.icmpNo X36.here hx rfl (hb hby at_69) rfl (teq (rfl : p1 = p1)).2 ?_
      show Steps p.tables e below (T36.setTop (mkF m 72 #[.val (.int p1), .val (.int p2), .val (.int (1 : Int32)), .val (.ref b30), .val (.long (p1.toInt64)), .second, .val (.long (((p1.toInt64) + (p1.toInt64)) + (p1.toInt64))), .second] [])) t
      refine XS.iconst X36.here hx rfl (hb hby at_72) ?_
      show Steps p.tables e below (T36.setTop (mkF m 73 #[.val (.int p1), .val (.int p2), .val (.int (1 : Int32)), .val (.ref b30), .val (.long (p1.toInt64)), .second, .val (.long (((p1.toInt64) + (p1.toInt64)) + (p1.toInt64))), .second] [(.int (1 : Int32))])) t
      refine XS.goto X36.here hx rfl (pc0 := 73) (pc' := 77) rfl (hb hby at_73) (by decide) (by decide) ?_
      exact k
    refine WP.st bk37 ?_
    clear bk37
    subst hG
    obtain ⟨fs, hr, hrun, hended, hW, hsame⟩ := X36.leave (v := some (.int (1 : Int32))) (fun h => by rw [Bd.returns] at h; cases h)
    refine WP.fin ⟨_, _, ?_, hrun, hended, _, _, rfl, ?_, ⟨_, rfl⟩, hW, hsame.mono (by decide) (by decide)⟩
    · exact retN X36 hx (t := .boolean) Bd.returns (by simp) (hb hby at_77) hr
    · show Q0 Z p1 p2 h0 n0 _ T36.heap _
      rw [Kq36]
      exact ⟨rfl, NF⟩
set_option maxRecDepth 65536 in
set_option maxHeartbeats 40000000 in
theorem comes_1 {Post : Tables → Env → Array Value → State → Outcome → State → Prop} (hpost : ∀ tb e args s v u, (limb_1_1.after args s (.returned v) u = true ∧ limb_1_2.after args s (.returned v) u = true ∧ True) → FrameEnd s (.returned v) u (Jvm.fieldLocs frame_1_writes args s ++ Jvm.arrayLocs frame_1_arrays args s ++ Jvm.staticLocs frame_1_statics s) 16 128 → Post tb e args s (.returned v) u) :
    ArmFor flags0 classFile x code maxLocals ret World_1 tables_1 room_1 Calls_1 rest_1 Pre_1 Post := by
  intro l hfl _ _ p e ha hc hk s m args below hf hA hF happ hP
  obtain ⟨hcalls, hrest, hpre⟩ := hP
  obtain ⟨-, -, -, hnamed, -, -, -, hat⟩ := (Spec.applies_iff hf).mp happ
  obtain ⟨hg, hn⟩ := and_e (Cond.before_iff.mp (show (Jvm.Cond.and given_1 narrow_1).before args s = true from hpre))
  obtain ⟨gg1, gg2⟩ := and_e hg
  obtain ⟨gg3, gg4⟩ := and_e gg2
  obtain ⟨w0, w1, rfl⟩ : ∃ w0 w1 : Value, args = #[w0, w1] := by
    have hs : args.size = 2 := by simpa [Cond.value, given_1] using gg1
    obtain ⟨L⟩ := args
    match L, hs with
    | [w0, w1], _ => exact ⟨w0, w1, rfl⟩
  have hw := fun d (hd : d ∈ tables_1) => atoms_spec (ws := Jvm.Cond.code x code maxLocals ret :: tables_1) hat d (List.mem_cons_of_mem _ hd)
  have hfit : Fit s := fun {y c} hc i hi => by
    obtain ⟨ha, rfl⟩ := Array.getElem?_eq_some_iff.mp hc
    have q := List.all_eq_true.mp ((Array.all_eq_true_iff_forall_mem.mp hF) _ (Array.getElem_mem ha)) i (List.mem_range.mpr hi)
    simpa [Array.getElem?_eq_getElem hi] using q
  obtain ⟨i0, ei0⟩ := is_v gg3
  obtain rfl : w0 = (.int i0) := Option.some.inj ei0
  obtain ⟨i1, ei1⟩ := is_v gg4
  obtain rfl : w1 = (.int i1) := Option.some.inj ei1
  obtain ⟨n, o, h1, h2, h3, _, L, rfl, ⟨rfl, N⟩, hq⟩ := rm0 l s _ hw tables_1 i0 i1 s.heap s.heap.size (Nat.le_refl _)  p e ha hc hk s m _ below hf ((Spec.applies_iff_loose hf).mp happ).1 ⟨rfl, State.Warmed39.refl s, rfl⟩ trivial
  refine ⟨n, _, h1, h2, h3, hpost _ _ _ _ _ _ ⟨Cond.after_iff.mpr rfl, Cond.after_iff.mpr (eq_i res_at (Term.int_eval (1)) rfl), trivial⟩ ⟨hq.1, hq.2.1, (hq.2.2.sift fun y hy => Or.inr (N y hy)).mono (by decide) (by decide)⟩⟩
theorem main_1_1 : Claimed_1_1 := comes_1 fun _ _ _ _ _ _ h hF => ⟨h.1, hF⟩
theorem main_1_2 : Claimed_1_2 := comes_1 fun _ _ _ _ _ _ h hF => ⟨h.2.1, hF⟩
end Jvm.Pilot.@@N@@
namespace Jvm.Pilot.@@N@@
open Jvm Jvm.ClassFile Sem Op Lib Jvm.Free Jvm.Stand Jvm.Pilot.@@N@@.Jvm.D
/-! MADE BY PROGRAM (witnessworld.py) out of the Statement's table words and the real class files: 10 classes; the members and pool entries that the words name. The judged class is class 1, her method 1. -/
namespace start1
open Jvm.ClassFile
def u (s : String) : CpInfo := .utf8 (stringToUtf16 s)
/-- a pool by its gaps: so many unusable entries, then the entry; so many at the end -/
def gap : Nat → List CpInfo → List CpInfo
  | 0, r => r
  | n + 1, r => .unusable :: gap n r
def poolList (es : List (Nat × CpInfo)) (last : Nat) : List CpInfo := es.foldr (fun e r => gap e.1 (e.2 :: r)) (gap last [])
def pool (es : List (Nat × CpInfo)) (last : Nat) : Array CpInfo := ⟨poolList es last⟩
def fileOf (pool : Array CpInfo) (this : Nat) (attrs : Array Attribute := #[]) (ms : Array MethodInfo := #[]) (fl : Nat := 33) (sup : Nat := 0) (ifs : Array Nat := #[]) (fds : Array FieldInfo := #[]) : ClassFile where
  minorVersion := 0
  majorVersion := 65
  constantPool := pool
  accessFlags := fl
  thisClass := this
  superClass := sup
  interfaces := ifs
  fields := fds
  methods := ms
  attributes := attrs
def plain (name : String) (sup : Option ClassId) : Class where
  name := name
  kind := .ordinary
  loader := none
  accessFlags := 33
  super := sup
  interfaces := #[]
  cf := none
  fields := #[]
  methods := #[]
  instanceTypes := #[]
  staticTypes := #[]
  resolved := #[]
  callSites := []
  init := .initialized
  statics := none
  mirror := none

def pool0 : Array CpInfo := pool [(5, u "<init>"), (0, u "()V"), (1, .class_ 10), (1, u "java/lang/Object")] 113

def k0c0 : Code := { maxStack := 0, maxLocals := 1, code := object_method_1_code, exceptionTable := #[], attributes := #[] }
def k0m0 : Method := { name := "<init>", desc := "()V", sig := { parameters := [], returnType := none }, accessFlags := 1, code := some k0c0 }
/-- java/lang/Object -/
def k0 : Class := { plain "java/lang/Object" none with
  accessFlags := 33
  interfaces := #[]
  cf := some (fileOf pool0 8 #[] #[{ accessFlags := 1, nameIndex := 5, descriptorIndex := 6, attributes := #[] }] 33 0 #[] #[])
  fields := #[]
  methods := #[k0m0]
  instanceTypes := #[]
  staticTypes := #[]
  resolved := Array.replicate 124 none
  statics := none }

def pool1 : Array CpInfo := pool [(2, .class_ 4), (1, u "java/lang/Object"), (0, u "<init>"), (0, u "()V"), (0, .class_ 8), (0, u "com/example/rows_by_reference/rowsbyreference/types/VarcharType"), (0, .methodref 7 10), (0, .nameAndType 5 11), (0, u "(IZ)V"), (0, .methodref 7 13), (0, .nameAndType 14 15), (0, u "octetLength"), (0, u "()J"), (0, .methodref 7 17), (0, .nameAndType 18 19), (0, u "precision"), (0, u "()I"), (0, .class_ 21), (0, u "com/example/rows_by_reference/rowsbyreference/types/VarcharTypeOctetLengthPinLaw"), (2, u "law"), (0, u "(II)Z")] 3

def k1m0 : Method := { name := "<init>", desc := "()V", sig := { parameters := [], returnType := none }, accessFlags := 2, code := none }
def k1c1 : Code := { maxStack := 4, maxLocals := 8, code := code, exceptionTable := #[], attributes := #[] }
def k1m1 : Method := { name := "law", desc := "(II)Z", sig := { parameters := [.int, .int], returnType := some .boolean }, accessFlags := 9, code := some k1c1 }
/-- com/example/rows_by_reference/rowsbyreference/types/VarcharTypeOctetLengthPinLaw -/
def k1 : Class := { plain "com/example/rows_by_reference/rowsbyreference/types/VarcharTypeOctetLengthPinLaw" (some 0) with
  accessFlags := 49
  interfaces := #[]
  cf := some (fileOf pool1 20 #[] #[{ accessFlags := 2, nameIndex := 5, descriptorIndex := 6, attributes := #[] }, { accessFlags := 9, nameIndex := 24, descriptorIndex := 25, attributes := #[] }] 49 2 #[] #[])
  fields := #[]
  methods := #[k1m0, k1m1]
  instanceTypes := #[]
  staticTypes := #[]
  resolved := Array.replicate 29 none
  statics := none }

def pool2 : Array CpInfo := pool [(1, .methodref 2 3), (0, .class_ 4), (0, .nameAndType 5 6), (0, u "java/lang/Object"), (0, u "<init>"), (0, u "()V"), (1, .class_ 10), (1, u "com/example/rows_by_reference/rowsbyreference/types/DataType"), (65, u "WIDEST_DECIMAL_LIMIT"), (0, u "Ljava/math/BigDecimal;"), (67, u "TINYINT"), (0, u "Lcom/example/rows_by_reference/rowsbyreference/types/DataType;"), (4, u "SMALLINT"), (2, u "INT"), (2, u "BIGINT"), (8, u "NAME"), (5, u "DATETIME"), (5, u "DATE"), (62, .class_ 242), (0, u "com/example/rows_by_reference/rowsbyreference/types/DataType$Parameters")] 2

def k2c0 : Code := { maxStack := 1, maxLocals := 1, code := prog_149_method_1_code, exceptionTable := #[], attributes := #[] }
def k2m0 : Method := { name := "<init>", desc := "()V", sig := { parameters := [], returnType := none }, accessFlags := 0, code := some k2c0 }
/-- com/example/rows_by_reference/rowsbyreference/types/DataType -/
def k2 : Class := { plain "com/example/rows_by_reference/rowsbyreference/types/DataType" (some 0) with
  accessFlags := 1057
  interfaces := #[]
  cf := some (fileOf pool2 8 #[.nestMembers #[241]] #[{ accessFlags := 0, nameIndex := 5, descriptorIndex := 6, attributes := #[] }] 1057 2 #[] #[{ accessFlags := 25, nameIndex := 145, descriptorIndex := 146, attributes := #[] }, { accessFlags := 25, nameIndex := 151, descriptorIndex := 146, attributes := #[] }, { accessFlags := 25, nameIndex := 154, descriptorIndex := 146, attributes := #[] }, { accessFlags := 25, nameIndex := 157, descriptorIndex := 146, attributes := #[] }, { accessFlags := 25, nameIndex := 166, descriptorIndex := 146, attributes := #[] }, { accessFlags := 25, nameIndex := 172, descriptorIndex := 146, attributes := #[] }, { accessFlags := 25, nameIndex := 178, descriptorIndex := 146, attributes := #[] }, { accessFlags := 26, nameIndex := 76, descriptorIndex := 77, attributes := #[] }])
  fields := #[{ name := "TINYINT", type := (.object "com/example/rows_by_reference/rowsbyreference/types/DataType"), accessFlags := 25, slot := 0, constantValue := 0 }, { name := "SMALLINT", type := (.object "com/example/rows_by_reference/rowsbyreference/types/DataType"), accessFlags := 25, slot := 1, constantValue := 0 }, { name := "INT", type := (.object "com/example/rows_by_reference/rowsbyreference/types/DataType"), accessFlags := 25, slot := 2, constantValue := 0 }, { name := "BIGINT", type := (.object "com/example/rows_by_reference/rowsbyreference/types/DataType"), accessFlags := 25, slot := 3, constantValue := 0 }, { name := "NAME", type := (.object "com/example/rows_by_reference/rowsbyreference/types/DataType"), accessFlags := 25, slot := 4, constantValue := 0 }, { name := "DATETIME", type := (.object "com/example/rows_by_reference/rowsbyreference/types/DataType"), accessFlags := 25, slot := 5, constantValue := 0 }, { name := "DATE", type := (.object "com/example/rows_by_reference/rowsbyreference/types/DataType"), accessFlags := 25, slot := 6, constantValue := 0 }, { name := "WIDEST_DECIMAL_LIMIT", type := (.object "java/math/BigDecimal"), accessFlags := 26, slot := 7, constantValue := 0 }]
  methods := #[k2m0]
  instanceTypes := #[]
  staticTypes := #[(.object "com/example/rows_by_reference/rowsbyreference/types/DataType"), (.object "com/example/rows_by_reference/rowsbyreference/types/DataType"), (.object "com/example/rows_by_reference/rowsbyreference/types/DataType"), (.object "com/example/rows_by_reference/rowsbyreference/types/DataType"), (.object "com/example/rows_by_reference/rowsbyreference/types/DataType"), (.object "com/example/rows_by_reference/rowsbyreference/types/DataType"), (.object "com/example/rows_by_reference/rowsbyreference/types/DataType"), (.object "java/math/BigDecimal")]
  resolved := Array.replicate 245 none
  statics := none }

def pool3 : Array CpInfo := pool [(1, .methodref 2 3), (0, .class_ 4), (0, .nameAndType 5 6), (0, u "com/example/rows_by_reference/rowsbyreference/types/DataType"), (0, u "<init>"), (0, u "()V"), (0, .fieldref 8 9), (0, .class_ 10), (0, .nameAndType 11 12), (0, u "com/example/rows_by_reference/rowsbyreference/types/VarcharType"), (0, u "length"), (0, u "I"), (0, .fieldref 8 14), (0, .nameAndType 15 16), (0, u "national"), (0, u "Z"), (50, u "()I"), (52, u "CHARACTER_BYTES"), (2, u "NATIONAL_CHARACTER_BYTES"), (1, u "(IZ)V"), (6, u "precision"), (13, u "octetLength"), (0, u "()J")] 54

def k3c0 : Code := { maxStack := 2, maxLocals := 3, code := prog_166_method_1_code, exceptionTable := #[], attributes := #[] }
def k3m0 : Method := { name := "<init>", desc := "(IZ)V", sig := { parameters := [.int, .boolean], returnType := none }, accessFlags := 0, code := some k3c0 }
def k3c1 : Code := { maxStack := 1, maxLocals := 1, code := prog_166_method_6_code, exceptionTable := #[], attributes := #[] }
def k3m1 : Method := { name := "precision", desc := "()I", sig := { parameters := [], returnType := some .int }, accessFlags := 1, code := some k3c1 }
def k3c2 : Code := { maxStack := 4, maxLocals := 1, code := prog_166_method_13_code, exceptionTable := #[], attributes := #[] }
def k3m2 : Method := { name := "octetLength", desc := "()J", sig := { parameters := [], returnType := some .long }, accessFlags := 1, code := some k3c2 }
/-- com/example/rows_by_reference/rowsbyreference/types/VarcharType -/
def k3 : Class := { plain "com/example/rows_by_reference/rowsbyreference/types/VarcharType" (some 2) with
  accessFlags := 48
  interfaces := #[]
  cf := some (fileOf pool3 8 #[] #[{ accessFlags := 0, nameIndex := 5, descriptorIndex := 125, attributes := #[] }, { accessFlags := 1, nameIndex := 132, descriptorIndex := 67, attributes := #[] }, { accessFlags := 1, nameIndex := 146, descriptorIndex := 147, attributes := #[] }] 48 2 #[] #[{ accessFlags := 26, nameIndex := 120, descriptorIndex := 12, attributes := #[] }, { accessFlags := 26, nameIndex := 123, descriptorIndex := 12, attributes := #[] }, { accessFlags := 18, nameIndex := 11, descriptorIndex := 12, attributes := #[] }, { accessFlags := 18, nameIndex := 15, descriptorIndex := 16, attributes := #[] }])
  fields := #[{ name := "CHARACTER_BYTES", type := .int, accessFlags := 26, slot := 0, constantValue := 0 }, { name := "NATIONAL_CHARACTER_BYTES", type := .int, accessFlags := 26, slot := 1, constantValue := 0 }, { name := "length", type := .int, accessFlags := 18, slot := 0, constantValue := 0 }, { name := "national", type := .boolean, accessFlags := 18, slot := 1, constantValue := 0 }]
  methods := #[k3m0, k3m1, k3m2]
  instanceTypes := #[.int, .boolean]
  staticTypes := #[.int, .int]
  resolved := Array.replicate 202 none
  statics := none }

def pool4 : Array CpInfo := pool [(1, u "java/lang/Cloneable"), (0, .class_ 1), (0, u "java/lang/Object"), (0, .class_ 3)] 3

/-- java/lang/Cloneable -/
def k4 : Class := { plain "java/lang/Cloneable" (some 0) with
  accessFlags := 1537
  interfaces := #[]
  cf := some (fileOf pool4 2 #[] #[] 1537 4 #[] #[])
  fields := #[]
  methods := #[]
  instanceTypes := #[]
  staticTypes := #[]
  resolved := Array.replicate 8 none
  statics := none }

def pool5 : Array CpInfo := pool [(1, u "java/io/Serializable"), (0, .class_ 1), (0, u "java/lang/Object"), (0, .class_ 3)] 3

/-- java/io/Serializable -/
def k5 : Class := { plain "java/io/Serializable" (some 0) with
  accessFlags := 1537
  interfaces := #[]
  cf := some (fileOf pool5 2 #[] #[] 1537 4 #[] #[])
  fields := #[]
  methods := #[]
  instanceTypes := #[]
  staticTypes := #[]
  resolved := Array.replicate 8 none
  statics := none }

/-- the primitive byte -/
def k6 : Class := { plain "byte" none with kind := .primitive 'B', accessFlags := 0x411 }
/-- [B -/
def k7 : Class := { plain "[B" (some 0) with kind := .array 6 .byte, interfaces := #[4, 5], accessFlags := 1041 }

/-- the primitive int -/
def k8 : Class := { plain "int" none with kind := .primitive 'I', accessFlags := 0x411 }
/-- [I -/
def k9 : Class := { plain "[I" (some 0) with kind := .array 8 .int, interfaces := #[4, 5], accessFlags := 1041 }

def heap : Heap := #[]
def classes : Array Class := #[k0, k1, k2, k3, k4, k5, k6, k7, k8, k9]
def interned : List (Array UInt16 × Addr) := []
def slotsUsed : Nat := 0
def theMethod : MethodId := ⟨1, 1⟩
def args0 : Array Value := #[.int 5, .int 1]
def aboutOver (below : List Frame) : State where
  vm := { classes := classes, interned := interned.toArray }
  heap := heap
  slotsUsed := slotsUsed
  threads := #[{ frames := .invoking theMethod args0 :: below }]
def below0 : List Frame := [.native { method := ⟨0, 0⟩, args := #[] }]
def about1 : State := aboutOver below0
def p0 : Program := .bare "" "" ""
def e0 : Env := launch0.env 0 0 0
theorem w_frames : about1.frames = Frame.invoking theMethod args0 :: below0 := rfl
set_option maxRecDepth 65536 in
theorem w_args : argsFit about1.vm theMethod args0 = true := by decide +kernel
set_option maxRecDepth 65536 in
theorem w_heap : heapFits about1 = true := by decide +kernel
set_option maxRecDepth 65536 in
theorem w_runnable : about1.curStatus? = some .runnable := by decide +kernel
set_option maxRecDepth 65536 in
theorem w_alone : about1.alone = true := by decide +kernel
set_option maxRecDepth 65536 in
theorem w_named : about1.methodNamed? x = some theMethod := by decide +kernel
set_option maxRecDepth 65536 in
theorem w_hears : about1.hears theMethod below0 = true := by decide +kernel
set_option maxRecDepth 65536 in
theorem w_ripe : about1.ripe theMethod args0 below0 = true := by decide +kernel
theorem w_running : about1.status = .running := rfl
set_option maxRecDepth 65536 in
theorem w_room : about1.hasRoom e0.platform room_1 = true :=
  launch0.hasRoom_least _ room_1 (by decide +kernel) (by decide +kernel) (by decide +kernel) (by decide +kernel) (by decide +kernel) (by decide +kernel)
theorem allAtoms_all (ts : List Jvm.Cond) (a : Array Jvm.Value) (st : Jvm.State) : (allAtoms ts).before a st = ts.all (fun c => c.before a st) := by
  induction ts with
  | nil => rfl
  | cons c t ih =>
    show (Jvm.Cond.and c (allAtoms t)).before a st = _
    rw [Jvm.Cond.before_and, ih, List.all_cons]
def words1 : List Jvm.Cond := Jvm.Cond.code x code maxLocals ret :: tables_1
/-- a 'code' word, met by the world's own term for the bytes: nothing is compared byte by byte -/
theorem code_word {y : MethodName} {bytes : ByteArray} {mx : Nat} {rt : Option FieldType} {a : Array Value} {s : State} {m : MethodId} {meth : Method} {c : Code} (h1 : s.methodNamed? y = some m) (h2 : s.vm.method? m = some meth) (h3 : meth.code = some c) (h4 : c.code = bytes)
    (h5 : (c.maxLocals == mx && c.exceptionTable.isEmpty && decide (c.maxStack ≤ mostOperands) && decide (meth.sig.returnType = rt) && !meth.locks && decide (parseMethodDescriptor y.desc = some meth.sig)) = true) : (Jvm.Cond.code y bytes mx rt).before a s = true := by
  simp only [Bool.and_eq_true, beq_iff_eq, Bool.not_eq_true', decide_eq_true_eq] at h5
  obtain ⟨⟨⟨⟨⟨g1, g2⟩, g3⟩, g4⟩, g5⟩, g6⟩ := h5
  simp [Cond.before, Cond.holds, Cond.value, h1, h2, h3, h4, g1, g2, g3, g4, g5, g6]
def isCode : Jvm.Cond → Bool
  | .code _ _ _ _ => true
  | _ => false
theorem all_split {L : List Jvm.Cond} {P : Jvm.Cond → Bool} (h1 : L.all (fun c => isCode c || P c) = true) (h2 : ∀ c ∈ L.filter isCode, P c = true) : L.all P = true := by
  refine List.all_eq_true.mpr fun c hc => ?_
  have h := List.all_eq_true.mp h1 c hc
  rcases Bool.eq_false_or_eq_true (isCode c) with hi | hi
  · exact h2 c (List.mem_filter.mpr ⟨hc, hi⟩)
  · simpa [hi] using h
set_option maxRecDepth 65536 in
theorem w_c0 : (Jvm.Cond.code x code maxLocals ret).before args0 about1 = true := code_word (m := ⟨1, 1⟩) (meth := k1m1) (c := k1c1) (by decide +kernel) rfl rfl rfl (by decide +kernel)
set_option maxRecDepth 65536 in
theorem w_c1 : (Jvm.Cond.code ({ cls := "com/example/rows_by_reference/rowsbyreference/types/VarcharType", name := "<init>", desc := "(IZ)V" } : Jvm.MethodName) prog_166_method_1_code (3 : Nat) (Option.none : Option Jvm.ClassFile.FieldType)).before args0 about1 = true := code_word (m := ⟨3, 0⟩) (meth := k3m0) (c := k3c0) (by decide +kernel) rfl rfl rfl (by decide +kernel)
set_option maxRecDepth 65536 in
theorem w_c2 : (Jvm.Cond.code ({ cls := "com/example/rows_by_reference/rowsbyreference/types/DataType", name := "<init>", desc := "()V" } : Jvm.MethodName) prog_149_method_1_code (1 : Nat) (Option.none : Option Jvm.ClassFile.FieldType)).before args0 about1 = true := code_word (m := ⟨2, 0⟩) (meth := k2m0) (c := k2c0) (by decide +kernel) rfl rfl rfl (by decide +kernel)
set_option maxRecDepth 65536 in
theorem w_c3 : (Jvm.Cond.code ({ cls := "java/lang/Object", name := "<init>", desc := "()V" } : Jvm.MethodName) object_method_1_code (1 : Nat) (Option.none : Option Jvm.ClassFile.FieldType)).before args0 about1 = true := code_word (m := ⟨0, 0⟩) (meth := k0m0) (c := k0c0) (by decide +kernel) rfl rfl rfl (by decide +kernel)
set_option maxRecDepth 65536 in
theorem w_c4 : (Jvm.Cond.code ({ cls := "com/example/rows_by_reference/rowsbyreference/types/VarcharType", name := "octetLength", desc := "()J" } : Jvm.MethodName) prog_166_method_13_code (1 : Nat) (Option.some Jvm.ClassFile.FieldType.long)).before args0 about1 = true := code_word (m := ⟨3, 2⟩) (meth := k3m2) (c := k3c2) (by decide +kernel) rfl rfl rfl (by decide +kernel)
set_option maxRecDepth 65536 in
theorem w_c5 : (Jvm.Cond.code ({ cls := "com/example/rows_by_reference/rowsbyreference/types/VarcharType", name := "precision", desc := "()I" } : Jvm.MethodName) prog_166_method_6_code (1 : Nat) (Option.some Jvm.ClassFile.FieldType.int)).before args0 about1 = true := code_word (m := ⟨3, 1⟩) (meth := k3m1) (c := k3c1) (by decide +kernel) rfl rfl rfl (by decide +kernel)
def codes1 : List Jvm.Cond := [Jvm.Cond.code x code maxLocals ret, Jvm.Cond.code ({ cls := "com/example/rows_by_reference/rowsbyreference/types/VarcharType", name := "<init>", desc := "(IZ)V" } : Jvm.MethodName) prog_166_method_1_code (3 : Nat) (Option.none : Option Jvm.ClassFile.FieldType), Jvm.Cond.code ({ cls := "com/example/rows_by_reference/rowsbyreference/types/DataType", name := "<init>", desc := "()V" } : Jvm.MethodName) prog_149_method_1_code (1 : Nat) (Option.none : Option Jvm.ClassFile.FieldType), Jvm.Cond.code ({ cls := "java/lang/Object", name := "<init>", desc := "()V" } : Jvm.MethodName) object_method_1_code (1 : Nat) (Option.none : Option Jvm.ClassFile.FieldType), Jvm.Cond.code ({ cls := "com/example/rows_by_reference/rowsbyreference/types/VarcharType", name := "octetLength", desc := "()J" } : Jvm.MethodName) prog_166_method_13_code (1 : Nat) (Option.some Jvm.ClassFile.FieldType.long), Jvm.Cond.code ({ cls := "com/example/rows_by_reference/rowsbyreference/types/VarcharType", name := "precision", desc := "()I" } : Jvm.MethodName) prog_166_method_6_code (1 : Nat) (Option.some Jvm.ClassFile.FieldType.int)]
set_option maxRecDepth 65536 in
theorem codes_eq : words1.filter isCode = codes1 := rfl
theorem w_codes : ∀ c ∈ words1.filter isCode, c.before args0 about1 = true := by
  rw [codes_eq]
  intro c hc
  simp only [codes1, List.mem_cons, List.not_mem_nil, or_false] at hc
  rcases hc with rfl | rfl | rfl | rfl | rfl | rfl
  · exact w_c0
  · exact w_c1
  · exact w_c2
  · exact w_c3
  · exact w_c4
  · exact w_c5
set_option maxRecDepth 65536 in
theorem w_t1 : (words1.take 24).all (fun c => isCode c || c.before args0 about1) = true := by decide +kernel
set_option maxRecDepth 65536 in
theorem w_t2 : (words1.drop 24).all (fun c => isCode c || c.before args0 about1) = true := by decide +kernel
theorem w_tables : (allAtoms (Jvm.Cond.code x code maxLocals ret :: tables_1)).before args0 about1 = true := by
  rw [allAtoms_all]
  show words1.all (fun c => c.before args0 about1) = true
  refine all_split ?_ w_codes
  rw [← List.take_append_drop 24 words1, List.all_append, w_t1, w_t2]
  rfl
set_option maxRecDepth 65536 in
theorem w_case : (Jvm.Cond.and given_1 narrow_1).before args0 about1 = true := by decide +kernel
theorem w_applies : (headSpec (Jvm.Cond.code x code maxLocals ret :: tables_1) room_1).applies x e0.platform about1 = true :=
  (Spec.applies_iff w_frames).mpr ⟨w_running, w_runnable, w_alone, w_named, w_hears, w_ripe, w_room, w_tables⟩
theorem atStart : AtStart classFile x code maxLocals ret World_1 tables_1 room_1 Calls_1 rest_1 Pre_1 launch0 p0 e0 about1 theMethod args0 below0 :=
  ⟨lists_1, trivial, launch0.admits_env _ _ _, launch0.least_env, fairChoices_fair.cas, fairChoices_fair.clock, w_frames, w_args, w_heap, w_applies, trivial, trivial, w_case⟩
end start1
theorem witness_1 : WitnessClaimed_1 := ⟨start1.p0, start1.e0, start1.about1, start1.theMethod, start1.args0, start1.below0, start1.atStart⟩
end Jvm.Pilot.@@N@@
