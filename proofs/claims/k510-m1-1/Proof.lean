import JvmDerived
import JvmDerived.Pilot.@@N@@Statement
import JvmDerived.Pilot.@@N@@Code
set_option linter.unusedVariables false
set_option linter.unusedSimpArgs false
namespace Jvm.RoadKit
open Sem ClassFile Op Lib Jvm.Stand Jvm.Free Jvm.LawKit
section New
variable {p : Program} {l : Launch} {e : Env} {R : Room} {s : State} {m : MethodId} {args : Array Value} {below : List Frame} {meth : Method} {c : Code} {T : State} {locs : List Loc} {cells slots : Nat}
theorem retI (X : Stand p l e R s m args below meth c T locs cells slots) (hx : p.tables.exec = Jvm.exec) {pc : Nat} {Ls : Array Slot} {z : Int32} {rest : List Value} (hret : meth.sig.returnType = some .int) (hd : decode c.code pc = .ok (.ireturn, 1)) {fs : List Frame}
    (hl : ∀ (f : JFrame) (acts : List Action), f.method = m → f.locked = none → f.entered = [] → (doReturn e (T.setTop f) acts (some (.int z))).1 = T.setFrames fs) : Steps p.tables e below (T.setTop (mkF m pc Ls (.int z :: rest))) (T.setFrames fs) := by
  have hm' : T.vm.method? m = some meth := X.method'
  have hn : narrow .int (.int z) = .int z := rfl
  show Steps p.tables e below (T.setTop { method := m, pc := pc, locals := Ls, stack := _ :: rest, locked := none }) _
  jvm_step X.here [X.here.top, hx, hd, hm', hret, hn]
  first | (intro acts; rw [hl _ acts rfl rfl rfl]) | rw [hl _ _ rfl rfl rfl]
  exact Steps.refl _
/-- from here the run ends as G says -/
def WP (tb : Tables) (e : Env) (below : List Frame) (G : State → Outcome → Prop) (T : State) (f : JFrame) : Prop := ∃ s₂ o, Steps tb e below (T.setTop f) s₂ ∧ G s₂ o
theorem WP.go {tb : Tables} {G : State → Outcome → Prop} {f : JFrame} (h : WP tb e below G T f) : ∃ s₂ o, Steps tb e below (T.setTop f) s₂ ∧ G s₂ o := h
theorem WP.fin {tb : Tables} {G : State → Outcome → Prop} {f : JFrame} (h : ∃ s₂ o, Steps tb e below (T.setTop f) s₂ ∧ G s₂ o) : WP tb e below G T f := h
theorem WP.cast {tb : Tables} {G : State → Outcome → Prop} {f f' : JFrame} (q : f = f') (h : WP tb e below G T f') : WP tb e below G T f := q ▸ h
theorem WP.st {tb : Tables} {G : State → Outcome → Prop} {T' : State} {f f' : JFrame} (k : ∀ t, Steps tb e below (T'.setTop f') t → Steps tb e below (T.setTop f) t) (h : WP tb e below G T' f') : WP tb e below G T f := by
  obtain ⟨s₂, o, h1, h2⟩ := h
  exact ⟨s₂, o, k _ h1, h2⟩
theorem WP.tr {tb : Tables} {G : State → Outcome → Prop} {T' : State} {f f' : JFrame} (k : Steps tb e below (T.setTop f) (T'.setTop f')) (h : WP tb e below G T' f') : WP tb e below G T f := by
  obtain ⟨s₂, o, h1, h2⟩ := h
  exact ⟨s₂, o, k.trans h1, h2⟩
theorem WP.name {tb : Tables} {G : State → Outcome → Prop} {f : JFrame} (h : ∀ G', G' = G → WP tb e below G' T f) : WP tb e below G T f := h G rfl
theorem ownWider (X : Stand p l e R s m args below meth c T locs cells slots) {c' s' : Nat} (h1 : cells ≤ c') (h2 : slots ≤ s') : Stand p l e R s m args below meth c T locs c' s' := { X with same := X.same.mono h1 h2 }
end New
theorem Arv.rd {Z : State} {h : Heap} {a : Addr} {k : ClassId} {ty : FieldType} {z j : Int32} {vs : List Value} {dv : Value} (F : Arv Z h a k ty z vs dv) (hj : ¬ j < 0 ∧ j < z) : ∃ c : Cell, Arr Z h a c ty ∧ ¬ (j < 0 ∨ c.slots.size ≤ j.toNatClampNeg) ∧ c.slots[j.toNatClampNeg]? = some (vs.getD j.toNatClampNeg dv) ∧ c.slots.size.toInt32 = z := by
  obtain ⟨c, A, -, S, q, H, -⟩ := F
  have hin := inb_of S hj
  exact ⟨c, A, hin, H.at hin rfl, len_of S q⟩
theorem Arv.len {Z : State} {h : Heap} {a : Addr} {k : ClassId} {ty : FieldType} {z : Int32} {vs : List Value} {dv : Value} (F : Arv Z h a k ty z vs dv) : ∃ c : Cell, Arr Z h a c ty ∧ c.slots.size.toInt32 = z := by
  obtain ⟨c, A, -, S, q, -, -⟩ := F
  exact ⟨c, A, len_of S q⟩
theorem ownFits {t : FieldType} {x : Int32} {y : Value} (h : narrow t (.int x) = y) (hf : fits t (narrow t (.int x)) = true) : fits t y = true := h ▸ hf
theorem nar01 {b : Int32} (h : b = 0 ∨ b = 1) : nar .boolean b = b := by rcases h with rfl | rfl <;> rfl
end Jvm.RoadKit
namespace Jvm.Pilot.@@N@@
open Jvm Jvm.ClassFile Sem Op Lib Jvm.Free Jvm.Stand Jvm.LawKit Jvm.RoadKit Bundle Jvm.Pilot.@@N@@.Jvm.D
def own_pick (p : Int32) (c_ROOK c_BISHOP c_GOLD c_SILVER c_KNIGHT c_LANCE c_PAWN c_KING : Addr) : Addr := if p = 0 then c_ROOK else if p = 1 then c_BISHOP else if p = 2 then c_GOLD else if p = 3 then c_SILVER else if p = 4 then c_KNIGHT else if p = 5 then c_LANCE else if p = 6 then c_PAWN else c_KING
def own_for (p : Int32) (c_ROOK c_BISHOP c_GOLD c_SILVER c_KNIGHT c_LANCE c_PAWN c_KING : Addr) : Value := if p = 82 then .ref c_ROOK else if p = 66 then .ref c_BISHOP else if p = 71 then .ref c_GOLD else if p = 83 then .ref c_SILVER else if p = 78 then .ref c_KNIGHT else if p = 76 then .ref c_LANCE else if p = 80 then .ref c_PAWN else if p = 75 then .ref c_KING else .null
theorem ef_1 (m : MethodId) (p1 : Int32) : entryFrame m #[(.int p1)] 1 = mkF m 0 #[.val (.int p1)] [] := by first | (simp [entryFrame, mkF, argsToLocals, Value.category]; done) | rfl
theorem pn_0 : plainName "com/example/banmen/banmen/position/PieceTypeForLetterPinLaw" = true := by first | (simp [plainName, overriddenIn]; done) | decide +kernel
theorem d1_0 : decode method_3_code 0 = .ok (.iload_n 0, 1) := by decide +kernel
theorem d1_1 : decode method_3_code 1 = .ok (.ifCond .ne 7, 3) := by decide +kernel
theorem d1_4 : decode method_3_code 4 = .ok (.getstatic 23, 3) := by decide +kernel
theorem d1_7 : decode method_3_code 7 = .ok (.areturn, 1) := by decide +kernel
theorem d1_8 : decode method_3_code 8 = .ok (.iload_n 0, 1) := by decide +kernel
theorem d1_9 : decode method_3_code 9 = .ok (.iconst 1, 1) := by decide +kernel
theorem d1_10 : decode method_3_code 10 = .ok (.if_icmp .ne 7, 3) := by decide +kernel
theorem d1_13 : decode method_3_code 13 = .ok (.getstatic 27, 3) := by decide +kernel
theorem d1_16 : decode method_3_code 16 = .ok (.areturn, 1) := by decide +kernel
theorem d1_17 : decode method_3_code 17 = .ok (.iload_n 0, 1) := by decide +kernel
theorem d1_18 : decode method_3_code 18 = .ok (.iconst 2, 1) := by decide +kernel
theorem d1_19 : decode method_3_code 19 = .ok (.if_icmp .ne 7, 3) := by decide +kernel
theorem d1_22 : decode method_3_code 22 = .ok (.getstatic 30, 3) := by decide +kernel
theorem d1_25 : decode method_3_code 25 = .ok (.areturn, 1) := by decide +kernel
theorem d1_26 : decode method_3_code 26 = .ok (.iload_n 0, 1) := by decide +kernel
theorem d1_27 : decode method_3_code 27 = .ok (.iconst 3, 1) := by decide +kernel
theorem d1_28 : decode method_3_code 28 = .ok (.if_icmp .ne 7, 3) := by decide +kernel
theorem d1_31 : decode method_3_code 31 = .ok (.getstatic 33, 3) := by decide +kernel
theorem d1_34 : decode method_3_code 34 = .ok (.areturn, 1) := by decide +kernel
theorem d1_35 : decode method_3_code 35 = .ok (.iload_n 0, 1) := by decide +kernel
theorem d1_36 : decode method_3_code 36 = .ok (.iconst 4, 1) := by decide +kernel
theorem d1_37 : decode method_3_code 37 = .ok (.if_icmp .ne 7, 3) := by decide +kernel
theorem d1_40 : decode method_3_code 40 = .ok (.getstatic 36, 3) := by decide +kernel
theorem d1_43 : decode method_3_code 43 = .ok (.areturn, 1) := by decide +kernel
theorem d1_44 : decode method_3_code 44 = .ok (.iload_n 0, 1) := by decide +kernel
theorem d1_45 : decode method_3_code 45 = .ok (.iconst 5, 1) := by decide +kernel
theorem d1_46 : decode method_3_code 46 = .ok (.if_icmp .ne 7, 3) := by decide +kernel
theorem d1_49 : decode method_3_code 49 = .ok (.getstatic 39, 3) := by decide +kernel
theorem d1_52 : decode method_3_code 52 = .ok (.areturn, 1) := by decide +kernel
theorem d1_53 : decode method_3_code 53 = .ok (.iload_n 0, 1) := by decide +kernel
theorem d1_54 : decode method_3_code 54 = .ok (.bipush 6, 2) := by decide +kernel
theorem d1_56 : decode method_3_code 56 = .ok (.if_icmp .ne 7, 3) := by decide +kernel
theorem d1_59 : decode method_3_code 59 = .ok (.getstatic 42, 3) := by decide +kernel
theorem d1_62 : decode method_3_code 62 = .ok (.areturn, 1) := by decide +kernel
theorem d1_63 : decode method_3_code 63 = .ok (.getstatic 45, 3) := by decide +kernel
theorem d1_66 : decode method_3_code 66 = .ok (.areturn, 1) := by decide +kernel
def Q1 (Z : State) (p1 : Int32) (c_ROOK : Addr) (c_BISHOP : Addr) (c_GOLD : Addr) (c_SILVER : Addr) (c_KNIGHT : Addr) (c_LANCE : Addr) (c_PAWN : Addr) (c_KING : Addr) (h0 : Heap) (n0 : Nat) (v : Option Value) (h : Heap) (L : List Loc) : Prop := v = some (.ref (own_pick p1 c_ROOK c_BISHOP c_GOLD c_SILVER c_KNIGHT c_LANCE c_PAWN c_KING)) ∧ Fr n0 L ∧ h = h0
set_option maxRecDepth 65536 in
set_option maxHeartbeats 40000000 in
theorem rm1 (l : Launch) (Z : State) (a0 : Array Value) (hw : ∀ d ∈ tables_1, d.before a0 Z = true) (ws : List Jvm.Cond) (p1 : Int32) (c_ROOK : Addr) (c_BISHOP : Addr) (c_GOLD : Addr) (c_SILVER : Addr) (c_KNIGHT : Addr) (c_LANCE : Addr) (c_PAWN : Addr) (c_KING : Addr) (h0 : Heap) (n0 : Nat) (Z0 : n0 ≤ h0.size) (U_com_example_banmen_banmen_position_PieceType_ROOK : Sta Z h0 "com/example/banmen/banmen/position/PieceType" "ROOK" "Lcom/example/banmen/banmen/position/PieceType;" (.ref c_ROOK)) (U_com_example_banmen_banmen_position_PieceType_BISHOP : Sta Z h0 "com/example/banmen/banmen/position/PieceType" "BISHOP" "Lcom/example/banmen/banmen/position/PieceType;" (.ref c_BISHOP)) (U_com_example_banmen_banmen_position_PieceType_GOLD : Sta Z h0 "com/example/banmen/banmen/position/PieceType" "GOLD" "Lcom/example/banmen/banmen/position/PieceType;" (.ref c_GOLD)) (U_com_example_banmen_banmen_position_PieceType_SILVER : Sta Z h0 "com/example/banmen/banmen/position/PieceType" "SILVER" "Lcom/example/banmen/banmen/position/PieceType;" (.ref c_SILVER)) (U_com_example_banmen_banmen_position_PieceType_KNIGHT : Sta Z h0 "com/example/banmen/banmen/position/PieceType" "KNIGHT" "Lcom/example/banmen/banmen/position/PieceType;" (.ref c_KNIGHT)) (U_com_example_banmen_banmen_position_PieceType_LANCE : Sta Z h0 "com/example/banmen/banmen/position/PieceType" "LANCE" "Lcom/example/banmen/banmen/position/PieceType;" (.ref c_LANCE)) (U_com_example_banmen_banmen_position_PieceType_PAWN : Sta Z h0 "com/example/banmen/banmen/position/PieceType" "PAWN" "Lcom/example/banmen/banmen/position/PieceType;" (.ref c_PAWN)) (U_com_example_banmen_banmen_position_PieceType_KING : Sta Z h0 "com/example/banmen/banmen/position/PieceType" "KING" "Lcom/example/banmen/banmen/position/PieceType;" (.ref c_KING)) :
    MetFree l (⟨"com/example/banmen/banmen/position/PieceTypeForLetterPinLaw", "pick", "(I)Lcom/example/banmen/banmen/position/PieceType;"⟩ : MethodName) (head1 (Jvm.Cond.code (⟨"com/example/banmen/banmen/position/PieceTypeForLetterPinLaw", "pick", "(I)Lcom/example/banmen/banmen/position/PieceType;"⟩ : MethodName) method_3_code 1 (some (.object "com/example/banmen/banmen/position/PieceType")) :: ws) ({ frames := 0, cells := 0, slots := 0, locals := 0 } : Room)) (fun a U => a = #[(.int p1)] ∧ Z.Warmed39 U.vm ∧ U.heap = h0) (fun _ _ _ _ _ => True) (fun _ U o U' => ∃ v L, o = .returned v ∧ Q1 Z p1 c_ROOK c_BISHOP c_GOLD c_SILVER c_KNIGHT c_LANCE c_PAWN c_KING h0 n0 v U'.heap L ∧ FrameEnd U o U' L ({ frames := 0, cells := 0, slots := 0, locals := 0 } : Room).cells ({ frames := 0, cells := 0, slots := 0, locals := 0 } : Room).slots) := by
  refine MetFree.of_bodySF (plainFor_of_name pn_0) hisR ?_
  intro p e s m args below meth c s₁ Bd hml0 hP hK
  obtain ⟨rfl, hZ, hh⟩ := hP
  have hx := Bd.exec
  have hby := Bd.bytes
  have hml : c.maxLocals = 1 := hml0
  have hown : s.vm.findClass "com/example/banmen/banmen/position/PieceTypeForLetterPinLaw" = some m.cls := findClass_of_methodNamed Bd.named
  have hnm := (name_of_methodNamed Bd.named Bd.method).1
  have X0 : Stand p l e ({ frames := 0, cells := 0, slots := 0, locals := 0 } : Room) s m #[(.int p1)] below meth c s₁ [] 0 0 := Stand.of_body Bd
  have e0 : s₁.heap = h0 := by rw [← hh, Bd.state]; rfl
  have NF := Fr.nil n0
  refine WP.go ?_
  refine WP.cast (ef_1 m p1) ?_
  refine WP.name ?_
  intro G hG
  have bk2 : ∀ t, Steps p.tables e below (s₁.setTop (mkF m 1 #[.val (.int p1)] [(.int p1)])) t → Steps p.tables e below (s₁.setTop (mkF m 0 #[.val (.int p1)] [])) t := fun t k => by
    refine XS.iloadN X0.here hx rfl (hb hby d1_0) rfl ?_
    exact k
  refine WP.st bk2 ?_
  clear bk2
  by_cases hc1 : p1 = (0 : Int32)
  · skip
    have bk3 : ∀ t, Steps p.tables e below (s₁.setTop (mkF m 4 #[.val (.int p1)] [])) t → Steps p.tables e below (s₁.setTop (mkF m 1 #[.val (.int p1)] [(.int p1)])) t := fun t k => by
      refine XS.ifNo X0.here hx rfl (hb hby d1_1) rfl ((if0 _ _).trans (teq hc1).2) ?_
      exact k
    refine WP.st bk3 ?_
    clear bk3
    obtain ⟨T4, X4, e4, st4⟩ := getS2 X0 hx hZ hown (host := "") (Or.inl (hw _ (List.mem_of_getElem? (i := 24) rfl))) Via.refl e0 U_com_example_banmen_banmen_position_PieceType_ROOK (g := (mkF m 4 #[.val (.int p1)] [])) rfl (hb hby d1_4)
    refine WP.st st4 ?_
    clear st4
    show WP p.tables e below _ T4 (mkF m 7 #[.val (.int p1)] [(.ref c_ROOK)])
    subst hG
    obtain ⟨fs, hr, hrun, hended, hW, hsame⟩ := X4.leave (v := some (.ref c_ROOK)) (fun h => by rw [Bd.returns] at h; cases h)
    refine WP.fin ⟨_, _, ?_, hrun, hended, _, _, rfl, ?_, ⟨_, rfl⟩, hW, hsame.mono (by decide) (by decide)⟩
    · exact retOut X4 hx Bd.returns rfl (Or.inr (Or.inr (Or.inr (Or.inr ⟨rfl, rfl, rfl⟩)))) (hb hby d1_7) hr
    · show Q1 Z p1 c_ROOK c_BISHOP c_GOLD c_SILVER c_KNIGHT c_LANCE c_PAWN c_KING h0 n0 _ T4.heap _
      rw [e4]
      exact ⟨(by simp [own_pick, hc1]), NF, rfl⟩
  · skip
    have bk6 : ∀ t, Steps p.tables e below (s₁.setTop (mkF m 10 #[.val (.int p1)] [(.int (1 : Int32)), (.int p1)])) t → Steps p.tables e below (s₁.setTop (mkF m 1 #[.val (.int p1)] [(.int p1)])) t := fun t k => by
      refine XS.ifYes X0.here hx rfl (pc0 := 1) (pc' := 8) rfl (hb hby d1_1) rfl ((if0 _ _).trans (feq hc1).2) (by decide) (by decide) ?_
      show Steps p.tables e below (s₁.setTop (mkF m 8 #[.val (.int p1)] [])) t
      refine XS.iloadN X0.here hx rfl (hb hby d1_8) rfl ?_
      show Steps p.tables e below (s₁.setTop (mkF m 9 #[.val (.int p1)] [(.int p1)])) t
      refine XS.iconst X0.here hx rfl (hb hby d1_9) ?_
      exact k
    refine WP.st bk6 ?_
    clear bk6
    by_cases hc5 : p1 = (1 : Int32)
    · skip
      have bk7 : ∀ t, Steps p.tables e below (s₁.setTop (mkF m 13 #[.val (.int p1)] [])) t → Steps p.tables e below (s₁.setTop (mkF m 10 #[.val (.int p1)] [(.int (1 : Int32)), (.int p1)])) t := fun t k => by
        refine XS.icmpNo X0.here hx rfl (hb hby d1_10) rfl (teq hc5).2 ?_
        exact k
      refine WP.st bk7 ?_
      clear bk7
      obtain ⟨T8, X8, e8, st8⟩ := getS2 X0 hx hZ hown (host := "") (Or.inl (hw _ (List.mem_of_getElem? (i := 18) rfl))) Via.refl e0 U_com_example_banmen_banmen_position_PieceType_BISHOP (g := (mkF m 13 #[.val (.int p1)] [])) rfl (hb hby d1_13)
      refine WP.st st8 ?_
      clear st8
      show WP p.tables e below _ T8 (mkF m 16 #[.val (.int p1)] [(.ref c_BISHOP)])
      subst hG
      obtain ⟨fs, hr, hrun, hended, hW, hsame⟩ := X8.leave (v := some (.ref c_BISHOP)) (fun h => by rw [Bd.returns] at h; cases h)
      refine WP.fin ⟨_, _, ?_, hrun, hended, _, _, rfl, ?_, ⟨_, rfl⟩, hW, hsame.mono (by decide) (by decide)⟩
      · exact retOut X8 hx Bd.returns rfl (Or.inr (Or.inr (Or.inr (Or.inr ⟨rfl, rfl, rfl⟩)))) (hb hby d1_16) hr
      · show Q1 Z p1 c_ROOK c_BISHOP c_GOLD c_SILVER c_KNIGHT c_LANCE c_PAWN c_KING h0 n0 _ T8.heap _
        rw [e8]
        exact ⟨(by simp [own_pick, hc1, hc5]), NF, rfl⟩
    · skip
      have bk10 : ∀ t, Steps p.tables e below (s₁.setTop (mkF m 19 #[.val (.int p1)] [(.int (2 : Int32)), (.int p1)])) t → Steps p.tables e below (s₁.setTop (mkF m 10 #[.val (.int p1)] [(.int (1 : Int32)), (.int p1)])) t := fun t k => by
        refine XS.icmpYes X0.here hx rfl (pc0 := 10) (pc' := 17) rfl (hb hby d1_10) rfl (feq hc5).2 (by decide) (by decide) ?_
        show Steps p.tables e below (s₁.setTop (mkF m 17 #[.val (.int p1)] [])) t
        refine XS.iloadN X0.here hx rfl (hb hby d1_17) rfl ?_
        show Steps p.tables e below (s₁.setTop (mkF m 18 #[.val (.int p1)] [(.int p1)])) t
        refine XS.iconst X0.here hx rfl (hb hby d1_18) ?_
        exact k
      refine WP.st bk10 ?_
      clear bk10
      by_cases hc9 : p1 = (2 : Int32)
      · skip
        have bk11 : ∀ t, Steps p.tables e below (s₁.setTop (mkF m 22 #[.val (.int p1)] [])) t → Steps p.tables e below (s₁.setTop (mkF m 19 #[.val (.int p1)] [(.int (2 : Int32)), (.int p1)])) t := fun t k => by
          refine XS.icmpNo X0.here hx rfl (hb hby d1_19) rfl (teq hc9).2 ?_
          exact k
        refine WP.st bk11 ?_
        clear bk11
        obtain ⟨T12, X12, e12, st12⟩ := getS2 X0 hx hZ hown (host := "") (Or.inl (hw _ (List.mem_of_getElem? (i := 36) rfl))) Via.refl e0 U_com_example_banmen_banmen_position_PieceType_GOLD (g := (mkF m 22 #[.val (.int p1)] [])) rfl (hb hby d1_22)
        refine WP.st st12 ?_
        clear st12
        show WP p.tables e below _ T12 (mkF m 25 #[.val (.int p1)] [(.ref c_GOLD)])
        subst hG
        obtain ⟨fs, hr, hrun, hended, hW, hsame⟩ := X12.leave (v := some (.ref c_GOLD)) (fun h => by rw [Bd.returns] at h; cases h)
        refine WP.fin ⟨_, _, ?_, hrun, hended, _, _, rfl, ?_, ⟨_, rfl⟩, hW, hsame.mono (by decide) (by decide)⟩
        · exact retOut X12 hx Bd.returns rfl (Or.inr (Or.inr (Or.inr (Or.inr ⟨rfl, rfl, rfl⟩)))) (hb hby d1_25) hr
        · show Q1 Z p1 c_ROOK c_BISHOP c_GOLD c_SILVER c_KNIGHT c_LANCE c_PAWN c_KING h0 n0 _ T12.heap _
          rw [e12]
          exact ⟨(by simp [own_pick, hc1, hc5, hc9]), NF, rfl⟩
      · skip
        have bk14 : ∀ t, Steps p.tables e below (s₁.setTop (mkF m 28 #[.val (.int p1)] [(.int (3 : Int32)), (.int p1)])) t → Steps p.tables e below (s₁.setTop (mkF m 19 #[.val (.int p1)] [(.int (2 : Int32)), (.int p1)])) t := fun t k => by
          refine XS.icmpYes X0.here hx rfl (pc0 := 19) (pc' := 26) rfl (hb hby d1_19) rfl (feq hc9).2 (by decide) (by decide) ?_
          show Steps p.tables e below (s₁.setTop (mkF m 26 #[.val (.int p1)] [])) t
          refine XS.iloadN X0.here hx rfl (hb hby d1_26) rfl ?_
          show Steps p.tables e below (s₁.setTop (mkF m 27 #[.val (.int p1)] [(.int p1)])) t
          refine XS.iconst X0.here hx rfl (hb hby d1_27) ?_
          exact k
        refine WP.st bk14 ?_
        clear bk14
        by_cases hc13 : p1 = (3 : Int32)
        · skip
          have bk15 : ∀ t, Steps p.tables e below (s₁.setTop (mkF m 31 #[.val (.int p1)] [])) t → Steps p.tables e below (s₁.setTop (mkF m 28 #[.val (.int p1)] [(.int (3 : Int32)), (.int p1)])) t := fun t k => by
            refine XS.icmpNo X0.here hx rfl (hb hby d1_28) rfl (teq hc13).2 ?_
            exact k
          refine WP.st bk15 ?_
          clear bk15
          obtain ⟨T16, X16, e16, st16⟩ := getS2 X0 hx hZ hown (host := "") (Or.inl (hw _ (List.mem_of_getElem? (i := 4) rfl))) Via.refl e0 U_com_example_banmen_banmen_position_PieceType_SILVER (g := (mkF m 31 #[.val (.int p1)] [])) rfl (hb hby d1_31)
          refine WP.st st16 ?_
          clear st16
          show WP p.tables e below _ T16 (mkF m 34 #[.val (.int p1)] [(.ref c_SILVER)])
          subst hG
          obtain ⟨fs, hr, hrun, hended, hW, hsame⟩ := X16.leave (v := some (.ref c_SILVER)) (fun h => by rw [Bd.returns] at h; cases h)
          refine WP.fin ⟨_, _, ?_, hrun, hended, _, _, rfl, ?_, ⟨_, rfl⟩, hW, hsame.mono (by decide) (by decide)⟩
          · exact retOut X16 hx Bd.returns rfl (Or.inr (Or.inr (Or.inr (Or.inr ⟨rfl, rfl, rfl⟩)))) (hb hby d1_34) hr
          · show Q1 Z p1 c_ROOK c_BISHOP c_GOLD c_SILVER c_KNIGHT c_LANCE c_PAWN c_KING h0 n0 _ T16.heap _
            rw [e16]
            exact ⟨(by simp [own_pick, hc1, hc5, hc9, hc13]), NF, rfl⟩
        · skip
          have bk18 : ∀ t, Steps p.tables e below (s₁.setTop (mkF m 37 #[.val (.int p1)] [(.int (4 : Int32)), (.int p1)])) t → Steps p.tables e below (s₁.setTop (mkF m 28 #[.val (.int p1)] [(.int (3 : Int32)), (.int p1)])) t := fun t k => by
            refine XS.icmpYes X0.here hx rfl (pc0 := 28) (pc' := 35) rfl (hb hby d1_28) rfl (feq hc13).2 (by decide) (by decide) ?_
            show Steps p.tables e below (s₁.setTop (mkF m 35 #[.val (.int p1)] [])) t
            refine XS.iloadN X0.here hx rfl (hb hby d1_35) rfl ?_
            show Steps p.tables e below (s₁.setTop (mkF m 36 #[.val (.int p1)] [(.int p1)])) t
            refine XS.iconst X0.here hx rfl (hb hby d1_36) ?_
            exact k
          refine WP.st bk18 ?_
          clear bk18
          by_cases hc17 : p1 = (4 : Int32)
          · skip
            have bk19 : ∀ t, Steps p.tables e below (s₁.setTop (mkF m 40 #[.val (.int p1)] [])) t → Steps p.tables e below (s₁.setTop (mkF m 37 #[.val (.int p1)] [(.int (4 : Int32)), (.int p1)])) t := fun t k => by
              refine XS.icmpNo X0.here hx rfl (hb hby d1_37) rfl (teq hc17).2 ?_
              exact k
            refine WP.st bk19 ?_
            clear bk19
            obtain ⟨T20, X20, e20, st20⟩ := getS2 X0 hx hZ hown (host := "") (Or.inl (hw _ (List.mem_of_getElem? (i := 21) rfl))) Via.refl e0 U_com_example_banmen_banmen_position_PieceType_KNIGHT (g := (mkF m 40 #[.val (.int p1)] [])) rfl (hb hby d1_40)
            refine WP.st st20 ?_
            clear st20
            show WP p.tables e below _ T20 (mkF m 43 #[.val (.int p1)] [(.ref c_KNIGHT)])
            subst hG
            obtain ⟨fs, hr, hrun, hended, hW, hsame⟩ := X20.leave (v := some (.ref c_KNIGHT)) (fun h => by rw [Bd.returns] at h; cases h)
            refine WP.fin ⟨_, _, ?_, hrun, hended, _, _, rfl, ?_, ⟨_, rfl⟩, hW, hsame.mono (by decide) (by decide)⟩
            · exact retOut X20 hx Bd.returns rfl (Or.inr (Or.inr (Or.inr (Or.inr ⟨rfl, rfl, rfl⟩)))) (hb hby d1_43) hr
            · show Q1 Z p1 c_ROOK c_BISHOP c_GOLD c_SILVER c_KNIGHT c_LANCE c_PAWN c_KING h0 n0 _ T20.heap _
              rw [e20]
              exact ⟨(by simp [own_pick, hc1, hc5, hc9, hc13, hc17]), NF, rfl⟩
          · skip
            have bk22 : ∀ t, Steps p.tables e below (s₁.setTop (mkF m 46 #[.val (.int p1)] [(.int (5 : Int32)), (.int p1)])) t → Steps p.tables e below (s₁.setTop (mkF m 37 #[.val (.int p1)] [(.int (4 : Int32)), (.int p1)])) t := fun t k => by
              refine XS.icmpYes X0.here hx rfl (pc0 := 37) (pc' := 44) rfl (hb hby d1_37) rfl (feq hc17).2 (by decide) (by decide) ?_
              show Steps p.tables e below (s₁.setTop (mkF m 44 #[.val (.int p1)] [])) t
              refine XS.iloadN X0.here hx rfl (hb hby d1_44) rfl ?_
              show Steps p.tables e below (s₁.setTop (mkF m 45 #[.val (.int p1)] [(.int p1)])) t
              refine XS.iconst X0.here hx rfl (hb hby d1_45) ?_
              exact k
            refine WP.st bk22 ?_
            clear bk22
            by_cases hc21 : p1 = (5 : Int32)
            · skip
              have bk23 : ∀ t, Steps p.tables e below (s₁.setTop (mkF m 49 #[.val (.int p1)] [])) t → Steps p.tables e below (s₁.setTop (mkF m 46 #[.val (.int p1)] [(.int (5 : Int32)), (.int p1)])) t := fun t k => by
                refine XS.icmpNo X0.here hx rfl (hb hby d1_46) rfl (teq hc21).2 ?_
                exact k
              refine WP.st bk23 ?_
              clear bk23
              obtain ⟨T24, X24, e24, st24⟩ := getS2 X0 hx hZ hown (host := "") (Or.inl (hw _ (List.mem_of_getElem? (i := 27) rfl))) Via.refl e0 U_com_example_banmen_banmen_position_PieceType_LANCE (g := (mkF m 49 #[.val (.int p1)] [])) rfl (hb hby d1_49)
              refine WP.st st24 ?_
              clear st24
              show WP p.tables e below _ T24 (mkF m 52 #[.val (.int p1)] [(.ref c_LANCE)])
              subst hG
              obtain ⟨fs, hr, hrun, hended, hW, hsame⟩ := X24.leave (v := some (.ref c_LANCE)) (fun h => by rw [Bd.returns] at h; cases h)
              refine WP.fin ⟨_, _, ?_, hrun, hended, _, _, rfl, ?_, ⟨_, rfl⟩, hW, hsame.mono (by decide) (by decide)⟩
              · exact retOut X24 hx Bd.returns rfl (Or.inr (Or.inr (Or.inr (Or.inr ⟨rfl, rfl, rfl⟩)))) (hb hby d1_52) hr
              · show Q1 Z p1 c_ROOK c_BISHOP c_GOLD c_SILVER c_KNIGHT c_LANCE c_PAWN c_KING h0 n0 _ T24.heap _
                rw [e24]
                exact ⟨(by simp [own_pick, hc1, hc5, hc9, hc13, hc17, hc21]), NF, rfl⟩
            · skip
              have bk26 : ∀ t, Steps p.tables e below (s₁.setTop (mkF m 56 #[.val (.int p1)] [(.int (6 : Int32)), (.int p1)])) t → Steps p.tables e below (s₁.setTop (mkF m 46 #[.val (.int p1)] [(.int (5 : Int32)), (.int p1)])) t := fun t k => by
                refine XS.icmpYes X0.here hx rfl (pc0 := 46) (pc' := 53) rfl (hb hby d1_46) rfl (feq hc21).2 (by decide) (by decide) ?_
                show Steps p.tables e below (s₁.setTop (mkF m 53 #[.val (.int p1)] [])) t
                refine XS.iloadN X0.here hx rfl (hb hby d1_53) rfl ?_
                show Steps p.tables e below (s₁.setTop (mkF m 54 #[.val (.int p1)] [(.int p1)])) t
                refine XS.bipush X0.here hx rfl (hb hby d1_54) ?_
                exact k
              refine WP.st bk26 ?_
              clear bk26
              by_cases hc25 : p1 = (6 : Int32)
              · skip
                have bk27 : ∀ t, Steps p.tables e below (s₁.setTop (mkF m 59 #[.val (.int p1)] [])) t → Steps p.tables e below (s₁.setTop (mkF m 56 #[.val (.int p1)] [(.int (6 : Int32)), (.int p1)])) t := fun t k => by
                  refine XS.icmpNo X0.here hx rfl (hb hby d1_56) rfl (teq hc25).2 ?_
                  exact k
                refine WP.st bk27 ?_
                clear bk27
                obtain ⟨T28, X28, e28, st28⟩ := getS2 X0 hx hZ hown (host := "") (Or.inl (hw _ (List.mem_of_getElem? (i := 33) rfl))) Via.refl e0 U_com_example_banmen_banmen_position_PieceType_PAWN (g := (mkF m 59 #[.val (.int p1)] [])) rfl (hb hby d1_59)
                refine WP.st st28 ?_
                clear st28
                show WP p.tables e below _ T28 (mkF m 62 #[.val (.int p1)] [(.ref c_PAWN)])
                subst hG
                obtain ⟨fs, hr, hrun, hended, hW, hsame⟩ := X28.leave (v := some (.ref c_PAWN)) (fun h => by rw [Bd.returns] at h; cases h)
                refine WP.fin ⟨_, _, ?_, hrun, hended, _, _, rfl, ?_, ⟨_, rfl⟩, hW, hsame.mono (by decide) (by decide)⟩
                · exact retOut X28 hx Bd.returns rfl (Or.inr (Or.inr (Or.inr (Or.inr ⟨rfl, rfl, rfl⟩)))) (hb hby d1_62) hr
                · show Q1 Z p1 c_ROOK c_BISHOP c_GOLD c_SILVER c_KNIGHT c_LANCE c_PAWN c_KING h0 n0 _ T28.heap _
                  rw [e28]
                  exact ⟨(by simp [own_pick, hc1, hc5, hc9, hc13, hc17, hc21, hc25]), NF, rfl⟩
              · skip
                have bk29 : ∀ t, Steps p.tables e below (s₁.setTop (mkF m 63 #[.val (.int p1)] [])) t → Steps p.tables e below (s₁.setTop (mkF m 56 #[.val (.int p1)] [(.int (6 : Int32)), (.int p1)])) t := fun t k => by
                  refine XS.icmpYes X0.here hx rfl (pc0 := 56) (pc' := 63) rfl (hb hby d1_56) rfl (feq hc25).2 (by decide) (by decide) ?_
                  exact k
                refine WP.st bk29 ?_
                clear bk29
                obtain ⟨T30, X30, e30, st30⟩ := getS2 X0 hx hZ hown (host := "") (Or.inl (hw _ (List.mem_of_getElem? (i := 30) rfl))) Via.refl e0 U_com_example_banmen_banmen_position_PieceType_KING (g := (mkF m 63 #[.val (.int p1)] [])) rfl (hb hby d1_63)
                refine WP.st st30 ?_
                clear st30
                show WP p.tables e below _ T30 (mkF m 66 #[.val (.int p1)] [(.ref c_KING)])
                subst hG
                obtain ⟨fs, hr, hrun, hended, hW, hsame⟩ := X30.leave (v := some (.ref c_KING)) (fun h => by rw [Bd.returns] at h; cases h)
                refine WP.fin ⟨_, _, ?_, hrun, hended, _, _, rfl, ?_, ⟨_, rfl⟩, hW, hsame.mono (by decide) (by decide)⟩
                · exact retOut X30 hx Bd.returns rfl (Or.inr (Or.inr (Or.inr (Or.inr ⟨rfl, rfl, rfl⟩)))) (hb hby d1_66) hr
                · show Q1 Z p1 c_ROOK c_BISHOP c_GOLD c_SILVER c_KNIGHT c_LANCE c_PAWN c_KING h0 n0 _ T30.heap _
                  rw [e30]
                  exact ⟨(by simp [own_pick, hc1, hc5, hc9, hc13, hc17, hc21, hc25]), NF, rfl⟩
theorem ef_2 (m : MethodId) (p1 : Int32) : entryFrame m #[(.int p1)] 1 = mkF m 0 #[.val (.int p1)] [] := by first | (simp [entryFrame, mkF, argsToLocals, Value.category]; done) | rfl
theorem pn_1 : plainName "com/example/banmen/banmen/position/PieceType" = true := by first | (simp [plainName, overriddenIn]; done) | decide +kernel
theorem d2_0 : decode prog_26_method_6_code 0 = .ok (.iload_n 0, 1) := by decide +kernel
theorem d2_1 : decode prog_26_method_6_code 1 = .ok (.tableswitch 119 66 83 #[91, 119, 119, 119, 119, 95, 119, 119, 119, 115, 107, 119, 103, 119, 111, 119, 87, 99], 87) := by decide +kernel
theorem d2_92 : decode prog_26_method_6_code 92 = .ok (.getstatic 7, 3) := by decide +kernel
theorem d2_95 : decode prog_26_method_6_code 95 = .ok (.areturn, 1) := by decide +kernel
theorem d2_120 : decode prog_26_method_6_code 120 = .ok (.aconst_null, 1) := by decide +kernel
theorem d2_121 : decode prog_26_method_6_code 121 = .ok (.areturn, 1) := by decide +kernel
theorem d2_96 : decode prog_26_method_6_code 96 = .ok (.getstatic 10, 3) := by decide +kernel
theorem d2_99 : decode prog_26_method_6_code 99 = .ok (.areturn, 1) := by decide +kernel
theorem d2_116 : decode prog_26_method_6_code 116 = .ok (.getstatic 25, 3) := by decide +kernel
theorem d2_119 : decode prog_26_method_6_code 119 = .ok (.areturn, 1) := by decide +kernel
theorem d2_108 : decode prog_26_method_6_code 108 = .ok (.getstatic 19, 3) := by decide +kernel
theorem d2_111 : decode prog_26_method_6_code 111 = .ok (.areturn, 1) := by decide +kernel
theorem d2_104 : decode prog_26_method_6_code 104 = .ok (.getstatic 16, 3) := by decide +kernel
theorem d2_107 : decode prog_26_method_6_code 107 = .ok (.areturn, 1) := by decide +kernel
theorem d2_112 : decode prog_26_method_6_code 112 = .ok (.getstatic 22, 3) := by decide +kernel
theorem d2_115 : decode prog_26_method_6_code 115 = .ok (.areturn, 1) := by decide +kernel
theorem d2_88 : decode prog_26_method_6_code 88 = .ok (.getstatic 3, 3) := by decide +kernel
theorem d2_91 : decode prog_26_method_6_code 91 = .ok (.areturn, 1) := by decide +kernel
theorem d2_100 : decode prog_26_method_6_code 100 = .ok (.getstatic 13, 3) := by decide +kernel
theorem d2_103 : decode prog_26_method_6_code 103 = .ok (.areturn, 1) := by decide +kernel
def Q2 (Z : State) (p1 : Int32) (c_ROOK : Addr) (c_BISHOP : Addr) (c_GOLD : Addr) (c_SILVER : Addr) (c_KNIGHT : Addr) (c_LANCE : Addr) (c_PAWN : Addr) (c_KING : Addr) (h0 : Heap) (n0 : Nat) (v : Option Value) (h : Heap) (L : List Loc) : Prop := v = some (own_for p1 c_ROOK c_BISHOP c_GOLD c_SILVER c_KNIGHT c_LANCE c_PAWN c_KING) ∧ Fr n0 L ∧ h = h0
set_option maxRecDepth 65536 in
set_option maxHeartbeats 40000000 in
theorem rm2 (l : Launch) (Z : State) (a0 : Array Value) (hw : ∀ d ∈ tables_1, d.before a0 Z = true) (ws : List Jvm.Cond) (p1 : Int32) (c_ROOK : Addr) (c_BISHOP : Addr) (c_GOLD : Addr) (c_SILVER : Addr) (c_KNIGHT : Addr) (c_LANCE : Addr) (c_PAWN : Addr) (c_KING : Addr) (h0 : Heap) (n0 : Nat) (Z0 : n0 ≤ h0.size) (U_com_example_banmen_banmen_position_PieceType_ROOK : Sta Z h0 "com/example/banmen/banmen/position/PieceType" "ROOK" "Lcom/example/banmen/banmen/position/PieceType;" (.ref c_ROOK)) (U_com_example_banmen_banmen_position_PieceType_BISHOP : Sta Z h0 "com/example/banmen/banmen/position/PieceType" "BISHOP" "Lcom/example/banmen/banmen/position/PieceType;" (.ref c_BISHOP)) (U_com_example_banmen_banmen_position_PieceType_GOLD : Sta Z h0 "com/example/banmen/banmen/position/PieceType" "GOLD" "Lcom/example/banmen/banmen/position/PieceType;" (.ref c_GOLD)) (U_com_example_banmen_banmen_position_PieceType_SILVER : Sta Z h0 "com/example/banmen/banmen/position/PieceType" "SILVER" "Lcom/example/banmen/banmen/position/PieceType;" (.ref c_SILVER)) (U_com_example_banmen_banmen_position_PieceType_KNIGHT : Sta Z h0 "com/example/banmen/banmen/position/PieceType" "KNIGHT" "Lcom/example/banmen/banmen/position/PieceType;" (.ref c_KNIGHT)) (U_com_example_banmen_banmen_position_PieceType_LANCE : Sta Z h0 "com/example/banmen/banmen/position/PieceType" "LANCE" "Lcom/example/banmen/banmen/position/PieceType;" (.ref c_LANCE)) (U_com_example_banmen_banmen_position_PieceType_PAWN : Sta Z h0 "com/example/banmen/banmen/position/PieceType" "PAWN" "Lcom/example/banmen/banmen/position/PieceType;" (.ref c_PAWN)) (U_com_example_banmen_banmen_position_PieceType_KING : Sta Z h0 "com/example/banmen/banmen/position/PieceType" "KING" "Lcom/example/banmen/banmen/position/PieceType;" (.ref c_KING)) :
    MetFree l (⟨"com/example/banmen/banmen/position/PieceType", "forLetter", "(C)Lcom/example/banmen/banmen/position/PieceType;"⟩ : MethodName) (head1 (Jvm.Cond.code (⟨"com/example/banmen/banmen/position/PieceType", "forLetter", "(C)Lcom/example/banmen/banmen/position/PieceType;"⟩ : MethodName) prog_26_method_6_code 1 (some (.object "com/example/banmen/banmen/position/PieceType")) :: ws) ({ frames := 0, cells := 0, slots := 0, locals := 0 } : Room)) (fun a U => a = #[(.int p1)] ∧ Z.Warmed39 U.vm ∧ U.heap = h0) (fun _ _ _ _ _ => True) (fun _ U o U' => ∃ v L, o = .returned v ∧ Q2 Z p1 c_ROOK c_BISHOP c_GOLD c_SILVER c_KNIGHT c_LANCE c_PAWN c_KING h0 n0 v U'.heap L ∧ FrameEnd U o U' L ({ frames := 0, cells := 0, slots := 0, locals := 0 } : Room).cells ({ frames := 0, cells := 0, slots := 0, locals := 0 } : Room).slots) := by
  refine MetFree.of_bodySF (plainFor_of_name pn_1) hisR ?_
  intro p e s m args below meth c s₁ Bd hml0 hP hK
  obtain ⟨rfl, hZ, hh⟩ := hP
  have hx := Bd.exec
  have hby := Bd.bytes
  have hml : c.maxLocals = 1 := hml0
  have hown : s.vm.findClass "com/example/banmen/banmen/position/PieceType" = some m.cls := findClass_of_methodNamed Bd.named
  have hnm := (name_of_methodNamed Bd.named Bd.method).1
  have X0 : Stand p l e ({ frames := 0, cells := 0, slots := 0, locals := 0 } : Room) s m #[(.int p1)] below meth c s₁ [] 0 0 := Stand.of_body Bd
  have e0 : s₁.heap = h0 := by rw [← hh, Bd.state]; rfl
  have NF := Fr.nil n0
  refine WP.go ?_
  refine WP.cast (ef_2 m p1) ?_
  refine WP.name ?_
  intro G hG
  have bk31 : ∀ t, Steps p.tables e below (s₁.setTop (mkF m 1 #[.val (.int p1)] [(.int p1)])) t → Steps p.tables e below (s₁.setTop (mkF m 0 #[.val (.int p1)] [])) t := fun t k => by
    refine XS.iloadN X0.here hx rfl (hb hby d2_0) rfl ?_
    exact k
  refine WP.st bk31 ?_
  clear bk31
  by_cases hk32 : p1 = (66 : Int32)
  · skip
    have bk33 : ∀ t, Steps p.tables e below (s₁.setTop (mkF m 92 #[.val (.int p1)] [])) t → Steps p.tables e below (s₁.setTop (mkF m 1 #[.val (.int p1)] [(.int p1)])) t := fun t k => by
      refine XS.tswIn X0.here hx rfl (pc0 := 1) (pc' := 92) (o := 91) rfl (hb hby d2_1) rfl (by rw [hk32]; decide) (by rw [hk32]; rfl) (by decide) (by decide) ?_
      exact k
    refine WP.st bk33 ?_
    clear bk33
    obtain ⟨T34, X34, e34, st34⟩ := getS2 X0 hx hZ hown (host := "") (Or.inl (hw _ (List.mem_of_getElem? (i := 20) rfl))) Via.refl e0 U_com_example_banmen_banmen_position_PieceType_BISHOP (g := (mkF m 92 #[.val (.int p1)] [])) rfl (hb hby d2_92)
    refine WP.st st34 ?_
    clear st34
    show WP p.tables e below _ T34 (mkF m 95 #[.val (.int p1)] [(.ref c_BISHOP)])
    subst hG
    obtain ⟨fs, hr, hrun, hended, hW, hsame⟩ := X34.leave (v := some (.ref c_BISHOP)) (fun h => by rw [Bd.returns] at h; cases h)
    refine WP.fin ⟨_, _, ?_, hrun, hended, _, _, rfl, ?_, ⟨_, rfl⟩, hW, hsame.mono (by decide) (by decide)⟩
    · exact retOut X34 hx Bd.returns rfl (Or.inr (Or.inr (Or.inr (Or.inr ⟨rfl, rfl, rfl⟩)))) (hb hby d2_95) hr
    · show Q2 Z p1 c_ROOK c_BISHOP c_GOLD c_SILVER c_KNIGHT c_LANCE c_PAWN c_KING h0 n0 _ T34.heap _
      rw [e34]
      exact ⟨(by simp [own_for, hk32]), NF, rfl⟩
  · skip
    by_cases hk35 : p1 = (67 : Int32)
    · skip
      have bk36 : ∀ t, Steps p.tables e below (s₁.setTop (mkF m 121 #[.val (.int p1)] [.null])) t → Steps p.tables e below (s₁.setTop (mkF m 1 #[.val (.int p1)] [(.int p1)])) t := fun t k => by
        refine XS.tswIn X0.here hx rfl (pc0 := 1) (pc' := 120) (o := 119) rfl (hb hby d2_1) rfl (by rw [hk35]; decide) (by rw [hk35]; rfl) (by decide) (by decide) ?_
        show Steps p.tables e below (s₁.setTop (mkF m 120 #[.val (.int p1)] [])) t
        refine XS.aconstNull X0.here hx rfl (hb hby d2_120) ?_
        exact k
      refine WP.st bk36 ?_
      clear bk36
      subst hG
      obtain ⟨fs, hr, hrun, hended, hW, hsame⟩ := X0.leave (v := some .null) (fun h => by rw [Bd.returns] at h; cases h)
      refine WP.fin ⟨_, _, ?_, hrun, hended, _, _, rfl, ?_, ⟨_, rfl⟩, hW, hsame.mono (by decide) (by decide)⟩
      · exact retOut X0 hx Bd.returns rfl (Or.inr (Or.inr (Or.inr (Or.inr ⟨rfl, rfl, rfl⟩)))) (hb hby d2_121) hr
      · show Q2 Z p1 c_ROOK c_BISHOP c_GOLD c_SILVER c_KNIGHT c_LANCE c_PAWN c_KING h0 n0 _ s₁.heap _
        rw [e0]
        exact ⟨(by simp [own_for, hk32, hk35]), NF, rfl⟩
    · skip
      by_cases hk37 : p1 = (68 : Int32)
      · skip
        have bk38 : ∀ t, Steps p.tables e below (s₁.setTop (mkF m 121 #[.val (.int p1)] [.null])) t → Steps p.tables e below (s₁.setTop (mkF m 1 #[.val (.int p1)] [(.int p1)])) t := fun t k => by
          refine XS.tswIn X0.here hx rfl (pc0 := 1) (pc' := 120) (o := 119) rfl (hb hby d2_1) rfl (by rw [hk37]; decide) (by rw [hk37]; rfl) (by decide) (by decide) ?_
          show Steps p.tables e below (s₁.setTop (mkF m 120 #[.val (.int p1)] [])) t
          refine XS.aconstNull X0.here hx rfl (hb hby d2_120) ?_
          exact k
        refine WP.st bk38 ?_
        clear bk38
        subst hG
        obtain ⟨fs, hr, hrun, hended, hW, hsame⟩ := X0.leave (v := some .null) (fun h => by rw [Bd.returns] at h; cases h)
        refine WP.fin ⟨_, _, ?_, hrun, hended, _, _, rfl, ?_, ⟨_, rfl⟩, hW, hsame.mono (by decide) (by decide)⟩
        · exact retOut X0 hx Bd.returns rfl (Or.inr (Or.inr (Or.inr (Or.inr ⟨rfl, rfl, rfl⟩)))) (hb hby d2_121) hr
        · show Q2 Z p1 c_ROOK c_BISHOP c_GOLD c_SILVER c_KNIGHT c_LANCE c_PAWN c_KING h0 n0 _ s₁.heap _
          rw [e0]
          exact ⟨(by simp [own_for, hk32, hk35, hk37]), NF, rfl⟩
      · skip
        by_cases hk39 : p1 = (69 : Int32)
        · skip
          have bk40 : ∀ t, Steps p.tables e below (s₁.setTop (mkF m 121 #[.val (.int p1)] [.null])) t → Steps p.tables e below (s₁.setTop (mkF m 1 #[.val (.int p1)] [(.int p1)])) t := fun t k => by
            refine XS.tswIn X0.here hx rfl (pc0 := 1) (pc' := 120) (o := 119) rfl (hb hby d2_1) rfl (by rw [hk39]; decide) (by rw [hk39]; rfl) (by decide) (by decide) ?_
            show Steps p.tables e below (s₁.setTop (mkF m 120 #[.val (.int p1)] [])) t
            refine XS.aconstNull X0.here hx rfl (hb hby d2_120) ?_
            exact k
          refine WP.st bk40 ?_
          clear bk40
          subst hG
          obtain ⟨fs, hr, hrun, hended, hW, hsame⟩ := X0.leave (v := some .null) (fun h => by rw [Bd.returns] at h; cases h)
          refine WP.fin ⟨_, _, ?_, hrun, hended, _, _, rfl, ?_, ⟨_, rfl⟩, hW, hsame.mono (by decide) (by decide)⟩
          · exact retOut X0 hx Bd.returns rfl (Or.inr (Or.inr (Or.inr (Or.inr ⟨rfl, rfl, rfl⟩)))) (hb hby d2_121) hr
          · show Q2 Z p1 c_ROOK c_BISHOP c_GOLD c_SILVER c_KNIGHT c_LANCE c_PAWN c_KING h0 n0 _ s₁.heap _
            rw [e0]
            exact ⟨(by simp [own_for, hk32, hk35, hk37, hk39]), NF, rfl⟩
        · skip
          by_cases hk41 : p1 = (70 : Int32)
          · skip
            have bk42 : ∀ t, Steps p.tables e below (s₁.setTop (mkF m 121 #[.val (.int p1)] [.null])) t → Steps p.tables e below (s₁.setTop (mkF m 1 #[.val (.int p1)] [(.int p1)])) t := fun t k => by
              refine XS.tswIn X0.here hx rfl (pc0 := 1) (pc' := 120) (o := 119) rfl (hb hby d2_1) rfl (by rw [hk41]; decide) (by rw [hk41]; rfl) (by decide) (by decide) ?_
              show Steps p.tables e below (s₁.setTop (mkF m 120 #[.val (.int p1)] [])) t
              refine XS.aconstNull X0.here hx rfl (hb hby d2_120) ?_
              exact k
            refine WP.st bk42 ?_
            clear bk42
            subst hG
            obtain ⟨fs, hr, hrun, hended, hW, hsame⟩ := X0.leave (v := some .null) (fun h => by rw [Bd.returns] at h; cases h)
            refine WP.fin ⟨_, _, ?_, hrun, hended, _, _, rfl, ?_, ⟨_, rfl⟩, hW, hsame.mono (by decide) (by decide)⟩
            · exact retOut X0 hx Bd.returns rfl (Or.inr (Or.inr (Or.inr (Or.inr ⟨rfl, rfl, rfl⟩)))) (hb hby d2_121) hr
            · show Q2 Z p1 c_ROOK c_BISHOP c_GOLD c_SILVER c_KNIGHT c_LANCE c_PAWN c_KING h0 n0 _ s₁.heap _
              rw [e0]
              exact ⟨(by simp [own_for, hk32, hk35, hk37, hk39, hk41]), NF, rfl⟩
          · skip
            by_cases hk43 : p1 = (71 : Int32)
            · skip
              have bk44 : ∀ t, Steps p.tables e below (s₁.setTop (mkF m 96 #[.val (.int p1)] [])) t → Steps p.tables e below (s₁.setTop (mkF m 1 #[.val (.int p1)] [(.int p1)])) t := fun t k => by
                refine XS.tswIn X0.here hx rfl (pc0 := 1) (pc' := 96) (o := 95) rfl (hb hby d2_1) rfl (by rw [hk43]; decide) (by rw [hk43]; rfl) (by decide) (by decide) ?_
                exact k
              refine WP.st bk44 ?_
              clear bk44
              obtain ⟨T45, X45, e45, st45⟩ := getS2 X0 hx hZ hown (host := "") (Or.inl (hw _ (List.mem_of_getElem? (i := 38) rfl))) Via.refl e0 U_com_example_banmen_banmen_position_PieceType_GOLD (g := (mkF m 96 #[.val (.int p1)] [])) rfl (hb hby d2_96)
              refine WP.st st45 ?_
              clear st45
              show WP p.tables e below _ T45 (mkF m 99 #[.val (.int p1)] [(.ref c_GOLD)])
              subst hG
              obtain ⟨fs, hr, hrun, hended, hW, hsame⟩ := X45.leave (v := some (.ref c_GOLD)) (fun h => by rw [Bd.returns] at h; cases h)
              refine WP.fin ⟨_, _, ?_, hrun, hended, _, _, rfl, ?_, ⟨_, rfl⟩, hW, hsame.mono (by decide) (by decide)⟩
              · exact retOut X45 hx Bd.returns rfl (Or.inr (Or.inr (Or.inr (Or.inr ⟨rfl, rfl, rfl⟩)))) (hb hby d2_99) hr
              · show Q2 Z p1 c_ROOK c_BISHOP c_GOLD c_SILVER c_KNIGHT c_LANCE c_PAWN c_KING h0 n0 _ T45.heap _
                rw [e45]
                exact ⟨(by simp [own_for, hk32, hk35, hk37, hk39, hk41, hk43]), NF, rfl⟩
            · skip
              by_cases hk46 : p1 = (72 : Int32)
              · skip
                have bk47 : ∀ t, Steps p.tables e below (s₁.setTop (mkF m 121 #[.val (.int p1)] [.null])) t → Steps p.tables e below (s₁.setTop (mkF m 1 #[.val (.int p1)] [(.int p1)])) t := fun t k => by
                  refine XS.tswIn X0.here hx rfl (pc0 := 1) (pc' := 120) (o := 119) rfl (hb hby d2_1) rfl (by rw [hk46]; decide) (by rw [hk46]; rfl) (by decide) (by decide) ?_
                  show Steps p.tables e below (s₁.setTop (mkF m 120 #[.val (.int p1)] [])) t
                  refine XS.aconstNull X0.here hx rfl (hb hby d2_120) ?_
                  exact k
                refine WP.st bk47 ?_
                clear bk47
                subst hG
                obtain ⟨fs, hr, hrun, hended, hW, hsame⟩ := X0.leave (v := some .null) (fun h => by rw [Bd.returns] at h; cases h)
                refine WP.fin ⟨_, _, ?_, hrun, hended, _, _, rfl, ?_, ⟨_, rfl⟩, hW, hsame.mono (by decide) (by decide)⟩
                · exact retOut X0 hx Bd.returns rfl (Or.inr (Or.inr (Or.inr (Or.inr ⟨rfl, rfl, rfl⟩)))) (hb hby d2_121) hr
                · show Q2 Z p1 c_ROOK c_BISHOP c_GOLD c_SILVER c_KNIGHT c_LANCE c_PAWN c_KING h0 n0 _ s₁.heap _
                  rw [e0]
                  exact ⟨(by simp [own_for, hk32, hk35, hk37, hk39, hk41, hk43, hk46]), NF, rfl⟩
              · skip
                by_cases hk48 : p1 = (73 : Int32)
                · skip
                  have bk49 : ∀ t, Steps p.tables e below (s₁.setTop (mkF m 121 #[.val (.int p1)] [.null])) t → Steps p.tables e below (s₁.setTop (mkF m 1 #[.val (.int p1)] [(.int p1)])) t := fun t k => by
                    refine XS.tswIn X0.here hx rfl (pc0 := 1) (pc' := 120) (o := 119) rfl (hb hby d2_1) rfl (by rw [hk48]; decide) (by rw [hk48]; rfl) (by decide) (by decide) ?_
                    show Steps p.tables e below (s₁.setTop (mkF m 120 #[.val (.int p1)] [])) t
                    refine XS.aconstNull X0.here hx rfl (hb hby d2_120) ?_
                    exact k
                  refine WP.st bk49 ?_
                  clear bk49
                  subst hG
                  obtain ⟨fs, hr, hrun, hended, hW, hsame⟩ := X0.leave (v := some .null) (fun h => by rw [Bd.returns] at h; cases h)
                  refine WP.fin ⟨_, _, ?_, hrun, hended, _, _, rfl, ?_, ⟨_, rfl⟩, hW, hsame.mono (by decide) (by decide)⟩
                  · exact retOut X0 hx Bd.returns rfl (Or.inr (Or.inr (Or.inr (Or.inr ⟨rfl, rfl, rfl⟩)))) (hb hby d2_121) hr
                  · show Q2 Z p1 c_ROOK c_BISHOP c_GOLD c_SILVER c_KNIGHT c_LANCE c_PAWN c_KING h0 n0 _ s₁.heap _
                    rw [e0]
                    exact ⟨(by simp [own_for, hk32, hk35, hk37, hk39, hk41, hk43, hk46, hk48]), NF, rfl⟩
                · skip
                  by_cases hk50 : p1 = (74 : Int32)
                  · skip
                    have bk51 : ∀ t, Steps p.tables e below (s₁.setTop (mkF m 121 #[.val (.int p1)] [.null])) t → Steps p.tables e below (s₁.setTop (mkF m 1 #[.val (.int p1)] [(.int p1)])) t := fun t k => by
                      refine XS.tswIn X0.here hx rfl (pc0 := 1) (pc' := 120) (o := 119) rfl (hb hby d2_1) rfl (by rw [hk50]; decide) (by rw [hk50]; rfl) (by decide) (by decide) ?_
                      show Steps p.tables e below (s₁.setTop (mkF m 120 #[.val (.int p1)] [])) t
                      refine XS.aconstNull X0.here hx rfl (hb hby d2_120) ?_
                      exact k
                    refine WP.st bk51 ?_
                    clear bk51
                    subst hG
                    obtain ⟨fs, hr, hrun, hended, hW, hsame⟩ := X0.leave (v := some .null) (fun h => by rw [Bd.returns] at h; cases h)
                    refine WP.fin ⟨_, _, ?_, hrun, hended, _, _, rfl, ?_, ⟨_, rfl⟩, hW, hsame.mono (by decide) (by decide)⟩
                    · exact retOut X0 hx Bd.returns rfl (Or.inr (Or.inr (Or.inr (Or.inr ⟨rfl, rfl, rfl⟩)))) (hb hby d2_121) hr
                    · show Q2 Z p1 c_ROOK c_BISHOP c_GOLD c_SILVER c_KNIGHT c_LANCE c_PAWN c_KING h0 n0 _ s₁.heap _
                      rw [e0]
                      exact ⟨(by simp [own_for, hk32, hk35, hk37, hk39, hk41, hk43, hk46, hk48, hk50]), NF, rfl⟩
                  · skip
                    by_cases hk52 : p1 = (75 : Int32)
                    · skip
                      have bk53 : ∀ t, Steps p.tables e below (s₁.setTop (mkF m 116 #[.val (.int p1)] [])) t → Steps p.tables e below (s₁.setTop (mkF m 1 #[.val (.int p1)] [(.int p1)])) t := fun t k => by
                        refine XS.tswIn X0.here hx rfl (pc0 := 1) (pc' := 116) (o := 115) rfl (hb hby d2_1) rfl (by rw [hk52]; decide) (by rw [hk52]; rfl) (by decide) (by decide) ?_
                        exact k
                      refine WP.st bk53 ?_
                      clear bk53
                      obtain ⟨T54, X54, e54, st54⟩ := getS2 X0 hx hZ hown (host := "") (Or.inl (hw _ (List.mem_of_getElem? (i := 32) rfl))) Via.refl e0 U_com_example_banmen_banmen_position_PieceType_KING (g := (mkF m 116 #[.val (.int p1)] [])) rfl (hb hby d2_116)
                      refine WP.st st54 ?_
                      clear st54
                      show WP p.tables e below _ T54 (mkF m 119 #[.val (.int p1)] [(.ref c_KING)])
                      subst hG
                      obtain ⟨fs, hr, hrun, hended, hW, hsame⟩ := X54.leave (v := some (.ref c_KING)) (fun h => by rw [Bd.returns] at h; cases h)
                      refine WP.fin ⟨_, _, ?_, hrun, hended, _, _, rfl, ?_, ⟨_, rfl⟩, hW, hsame.mono (by decide) (by decide)⟩
                      · exact retOut X54 hx Bd.returns rfl (Or.inr (Or.inr (Or.inr (Or.inr ⟨rfl, rfl, rfl⟩)))) (hb hby d2_119) hr
                      · show Q2 Z p1 c_ROOK c_BISHOP c_GOLD c_SILVER c_KNIGHT c_LANCE c_PAWN c_KING h0 n0 _ T54.heap _
                        rw [e54]
                        exact ⟨(by simp [own_for, hk32, hk35, hk37, hk39, hk41, hk43, hk46, hk48, hk50, hk52]), NF, rfl⟩
                    · skip
                      by_cases hk55 : p1 = (76 : Int32)
                      · skip
                        have bk56 : ∀ t, Steps p.tables e below (s₁.setTop (mkF m 108 #[.val (.int p1)] [])) t → Steps p.tables e below (s₁.setTop (mkF m 1 #[.val (.int p1)] [(.int p1)])) t := fun t k => by
                          refine XS.tswIn X0.here hx rfl (pc0 := 1) (pc' := 108) (o := 107) rfl (hb hby d2_1) rfl (by rw [hk55]; decide) (by rw [hk55]; rfl) (by decide) (by decide) ?_
                          exact k
                        refine WP.st bk56 ?_
                        clear bk56
                        obtain ⟨T57, X57, e57, st57⟩ := getS2 X0 hx hZ hown (host := "") (Or.inl (hw _ (List.mem_of_getElem? (i := 29) rfl))) Via.refl e0 U_com_example_banmen_banmen_position_PieceType_LANCE (g := (mkF m 108 #[.val (.int p1)] [])) rfl (hb hby d2_108)
                        refine WP.st st57 ?_
                        clear st57
                        show WP p.tables e below _ T57 (mkF m 111 #[.val (.int p1)] [(.ref c_LANCE)])
                        subst hG
                        obtain ⟨fs, hr, hrun, hended, hW, hsame⟩ := X57.leave (v := some (.ref c_LANCE)) (fun h => by rw [Bd.returns] at h; cases h)
                        refine WP.fin ⟨_, _, ?_, hrun, hended, _, _, rfl, ?_, ⟨_, rfl⟩, hW, hsame.mono (by decide) (by decide)⟩
                        · exact retOut X57 hx Bd.returns rfl (Or.inr (Or.inr (Or.inr (Or.inr ⟨rfl, rfl, rfl⟩)))) (hb hby d2_111) hr
                        · show Q2 Z p1 c_ROOK c_BISHOP c_GOLD c_SILVER c_KNIGHT c_LANCE c_PAWN c_KING h0 n0 _ T57.heap _
                          rw [e57]
                          exact ⟨(by simp [own_for, hk32, hk35, hk37, hk39, hk41, hk43, hk46, hk48, hk50, hk52, hk55]), NF, rfl⟩
                      · skip
                        by_cases hk58 : p1 = (77 : Int32)
                        · skip
                          have bk59 : ∀ t, Steps p.tables e below (s₁.setTop (mkF m 121 #[.val (.int p1)] [.null])) t → Steps p.tables e below (s₁.setTop (mkF m 1 #[.val (.int p1)] [(.int p1)])) t := fun t k => by
                            refine XS.tswIn X0.here hx rfl (pc0 := 1) (pc' := 120) (o := 119) rfl (hb hby d2_1) rfl (by rw [hk58]; decide) (by rw [hk58]; rfl) (by decide) (by decide) ?_
                            show Steps p.tables e below (s₁.setTop (mkF m 120 #[.val (.int p1)] [])) t
                            refine XS.aconstNull X0.here hx rfl (hb hby d2_120) ?_
                            exact k
                          refine WP.st bk59 ?_
                          clear bk59
                          subst hG
                          obtain ⟨fs, hr, hrun, hended, hW, hsame⟩ := X0.leave (v := some .null) (fun h => by rw [Bd.returns] at h; cases h)
                          refine WP.fin ⟨_, _, ?_, hrun, hended, _, _, rfl, ?_, ⟨_, rfl⟩, hW, hsame.mono (by decide) (by decide)⟩
                          · exact retOut X0 hx Bd.returns rfl (Or.inr (Or.inr (Or.inr (Or.inr ⟨rfl, rfl, rfl⟩)))) (hb hby d2_121) hr
                          · show Q2 Z p1 c_ROOK c_BISHOP c_GOLD c_SILVER c_KNIGHT c_LANCE c_PAWN c_KING h0 n0 _ s₁.heap _
                            rw [e0]
                            exact ⟨(by simp [own_for, hk32, hk35, hk37, hk39, hk41, hk43, hk46, hk48, hk50, hk52, hk55, hk58]), NF, rfl⟩
                        · skip
                          by_cases hk60 : p1 = (78 : Int32)
                          · skip
                            have bk61 : ∀ t, Steps p.tables e below (s₁.setTop (mkF m 104 #[.val (.int p1)] [])) t → Steps p.tables e below (s₁.setTop (mkF m 1 #[.val (.int p1)] [(.int p1)])) t := fun t k => by
                              refine XS.tswIn X0.here hx rfl (pc0 := 1) (pc' := 104) (o := 103) rfl (hb hby d2_1) rfl (by rw [hk60]; decide) (by rw [hk60]; rfl) (by decide) (by decide) ?_
                              exact k
                            refine WP.st bk61 ?_
                            clear bk61
                            obtain ⟨T62, X62, e62, st62⟩ := getS2 X0 hx hZ hown (host := "") (Or.inl (hw _ (List.mem_of_getElem? (i := 23) rfl))) Via.refl e0 U_com_example_banmen_banmen_position_PieceType_KNIGHT (g := (mkF m 104 #[.val (.int p1)] [])) rfl (hb hby d2_104)
                            refine WP.st st62 ?_
                            clear st62
                            show WP p.tables e below _ T62 (mkF m 107 #[.val (.int p1)] [(.ref c_KNIGHT)])
                            subst hG
                            obtain ⟨fs, hr, hrun, hended, hW, hsame⟩ := X62.leave (v := some (.ref c_KNIGHT)) (fun h => by rw [Bd.returns] at h; cases h)
                            refine WP.fin ⟨_, _, ?_, hrun, hended, _, _, rfl, ?_, ⟨_, rfl⟩, hW, hsame.mono (by decide) (by decide)⟩
                            · exact retOut X62 hx Bd.returns rfl (Or.inr (Or.inr (Or.inr (Or.inr ⟨rfl, rfl, rfl⟩)))) (hb hby d2_107) hr
                            · show Q2 Z p1 c_ROOK c_BISHOP c_GOLD c_SILVER c_KNIGHT c_LANCE c_PAWN c_KING h0 n0 _ T62.heap _
                              rw [e62]
                              exact ⟨(by simp [own_for, hk32, hk35, hk37, hk39, hk41, hk43, hk46, hk48, hk50, hk52, hk55, hk58, hk60]), NF, rfl⟩
                          · skip
                            by_cases hk63 : p1 = (79 : Int32)
                            · skip
                              have bk64 : ∀ t, Steps p.tables e below (s₁.setTop (mkF m 121 #[.val (.int p1)] [.null])) t → Steps p.tables e below (s₁.setTop (mkF m 1 #[.val (.int p1)] [(.int p1)])) t := fun t k => by
                                refine XS.tswIn X0.here hx rfl (pc0 := 1) (pc' := 120) (o := 119) rfl (hb hby d2_1) rfl (by rw [hk63]; decide) (by rw [hk63]; rfl) (by decide) (by decide) ?_
                                show Steps p.tables e below (s₁.setTop (mkF m 120 #[.val (.int p1)] [])) t
                                refine XS.aconstNull X0.here hx rfl (hb hby d2_120) ?_
                                exact k
                              refine WP.st bk64 ?_
                              clear bk64
                              subst hG
                              obtain ⟨fs, hr, hrun, hended, hW, hsame⟩ := X0.leave (v := some .null) (fun h => by rw [Bd.returns] at h; cases h)
                              refine WP.fin ⟨_, _, ?_, hrun, hended, _, _, rfl, ?_, ⟨_, rfl⟩, hW, hsame.mono (by decide) (by decide)⟩
                              · exact retOut X0 hx Bd.returns rfl (Or.inr (Or.inr (Or.inr (Or.inr ⟨rfl, rfl, rfl⟩)))) (hb hby d2_121) hr
                              · show Q2 Z p1 c_ROOK c_BISHOP c_GOLD c_SILVER c_KNIGHT c_LANCE c_PAWN c_KING h0 n0 _ s₁.heap _
                                rw [e0]
                                exact ⟨(by simp [own_for, hk32, hk35, hk37, hk39, hk41, hk43, hk46, hk48, hk50, hk52, hk55, hk58, hk60, hk63]), NF, rfl⟩
                            · skip
                              by_cases hk65 : p1 = (80 : Int32)
                              · skip
                                have bk66 : ∀ t, Steps p.tables e below (s₁.setTop (mkF m 112 #[.val (.int p1)] [])) t → Steps p.tables e below (s₁.setTop (mkF m 1 #[.val (.int p1)] [(.int p1)])) t := fun t k => by
                                  refine XS.tswIn X0.here hx rfl (pc0 := 1) (pc' := 112) (o := 111) rfl (hb hby d2_1) rfl (by rw [hk65]; decide) (by rw [hk65]; rfl) (by decide) (by decide) ?_
                                  exact k
                                refine WP.st bk66 ?_
                                clear bk66
                                obtain ⟨T67, X67, e67, st67⟩ := getS2 X0 hx hZ hown (host := "") (Or.inl (hw _ (List.mem_of_getElem? (i := 35) rfl))) Via.refl e0 U_com_example_banmen_banmen_position_PieceType_PAWN (g := (mkF m 112 #[.val (.int p1)] [])) rfl (hb hby d2_112)
                                refine WP.st st67 ?_
                                clear st67
                                show WP p.tables e below _ T67 (mkF m 115 #[.val (.int p1)] [(.ref c_PAWN)])
                                subst hG
                                obtain ⟨fs, hr, hrun, hended, hW, hsame⟩ := X67.leave (v := some (.ref c_PAWN)) (fun h => by rw [Bd.returns] at h; cases h)
                                refine WP.fin ⟨_, _, ?_, hrun, hended, _, _, rfl, ?_, ⟨_, rfl⟩, hW, hsame.mono (by decide) (by decide)⟩
                                · exact retOut X67 hx Bd.returns rfl (Or.inr (Or.inr (Or.inr (Or.inr ⟨rfl, rfl, rfl⟩)))) (hb hby d2_115) hr
                                · show Q2 Z p1 c_ROOK c_BISHOP c_GOLD c_SILVER c_KNIGHT c_LANCE c_PAWN c_KING h0 n0 _ T67.heap _
                                  rw [e67]
                                  exact ⟨(by simp [own_for, hk32, hk35, hk37, hk39, hk41, hk43, hk46, hk48, hk50, hk52, hk55, hk58, hk60, hk63, hk65]), NF, rfl⟩
                              · skip
                                by_cases hk68 : p1 = (81 : Int32)
                                · skip
                                  have bk69 : ∀ t, Steps p.tables e below (s₁.setTop (mkF m 121 #[.val (.int p1)] [.null])) t → Steps p.tables e below (s₁.setTop (mkF m 1 #[.val (.int p1)] [(.int p1)])) t := fun t k => by
                                    refine XS.tswIn X0.here hx rfl (pc0 := 1) (pc' := 120) (o := 119) rfl (hb hby d2_1) rfl (by rw [hk68]; decide) (by rw [hk68]; rfl) (by decide) (by decide) ?_
                                    show Steps p.tables e below (s₁.setTop (mkF m 120 #[.val (.int p1)] [])) t
                                    refine XS.aconstNull X0.here hx rfl (hb hby d2_120) ?_
                                    exact k
                                  refine WP.st bk69 ?_
                                  clear bk69
                                  subst hG
                                  obtain ⟨fs, hr, hrun, hended, hW, hsame⟩ := X0.leave (v := some .null) (fun h => by rw [Bd.returns] at h; cases h)
                                  refine WP.fin ⟨_, _, ?_, hrun, hended, _, _, rfl, ?_, ⟨_, rfl⟩, hW, hsame.mono (by decide) (by decide)⟩
                                  · exact retOut X0 hx Bd.returns rfl (Or.inr (Or.inr (Or.inr (Or.inr ⟨rfl, rfl, rfl⟩)))) (hb hby d2_121) hr
                                  · show Q2 Z p1 c_ROOK c_BISHOP c_GOLD c_SILVER c_KNIGHT c_LANCE c_PAWN c_KING h0 n0 _ s₁.heap _
                                    rw [e0]
                                    exact ⟨(by simp [own_for, hk32, hk35, hk37, hk39, hk41, hk43, hk46, hk48, hk50, hk52, hk55, hk58, hk60, hk63, hk65, hk68]), NF, rfl⟩
                                · skip
                                  by_cases hk70 : p1 = (82 : Int32)
                                  · skip
                                    have bk71 : ∀ t, Steps p.tables e below (s₁.setTop (mkF m 88 #[.val (.int p1)] [])) t → Steps p.tables e below (s₁.setTop (mkF m 1 #[.val (.int p1)] [(.int p1)])) t := fun t k => by
                                      refine XS.tswIn X0.here hx rfl (pc0 := 1) (pc' := 88) (o := 87) rfl (hb hby d2_1) rfl (by rw [hk70]; decide) (by rw [hk70]; rfl) (by decide) (by decide) ?_
                                      exact k
                                    refine WP.st bk71 ?_
                                    clear bk71
                                    obtain ⟨T72, X72, e72, st72⟩ := getS2 X0 hx hZ hown (host := "") (Or.inl (hw _ (List.mem_of_getElem? (i := 26) rfl))) Via.refl e0 U_com_example_banmen_banmen_position_PieceType_ROOK (g := (mkF m 88 #[.val (.int p1)] [])) rfl (hb hby d2_88)
                                    refine WP.st st72 ?_
                                    clear st72
                                    show WP p.tables e below _ T72 (mkF m 91 #[.val (.int p1)] [(.ref c_ROOK)])
                                    subst hG
                                    obtain ⟨fs, hr, hrun, hended, hW, hsame⟩ := X72.leave (v := some (.ref c_ROOK)) (fun h => by rw [Bd.returns] at h; cases h)
                                    refine WP.fin ⟨_, _, ?_, hrun, hended, _, _, rfl, ?_, ⟨_, rfl⟩, hW, hsame.mono (by decide) (by decide)⟩
                                    · exact retOut X72 hx Bd.returns rfl (Or.inr (Or.inr (Or.inr (Or.inr ⟨rfl, rfl, rfl⟩)))) (hb hby d2_91) hr
                                    · show Q2 Z p1 c_ROOK c_BISHOP c_GOLD c_SILVER c_KNIGHT c_LANCE c_PAWN c_KING h0 n0 _ T72.heap _
                                      rw [e72]
                                      exact ⟨(by simp [own_for, hk32, hk35, hk37, hk39, hk41, hk43, hk46, hk48, hk50, hk52, hk55, hk58, hk60, hk63, hk65, hk68, hk70]), NF, rfl⟩
                                  · skip
                                    by_cases hk73 : p1 = (83 : Int32)
                                    · skip
                                      have bk74 : ∀ t, Steps p.tables e below (s₁.setTop (mkF m 100 #[.val (.int p1)] [])) t → Steps p.tables e below (s₁.setTop (mkF m 1 #[.val (.int p1)] [(.int p1)])) t := fun t k => by
                                        refine XS.tswIn X0.here hx rfl (pc0 := 1) (pc' := 100) (o := 99) rfl (hb hby d2_1) rfl (by rw [hk73]; decide) (by rw [hk73]; rfl) (by decide) (by decide) ?_
                                        exact k
                                      refine WP.st bk74 ?_
                                      clear bk74
                                      obtain ⟨T75, X75, e75, st75⟩ := getS2 X0 hx hZ hown (host := "") (Or.inl (hw _ (List.mem_of_getElem? (i := 17) rfl))) Via.refl e0 U_com_example_banmen_banmen_position_PieceType_SILVER (g := (mkF m 100 #[.val (.int p1)] [])) rfl (hb hby d2_100)
                                      refine WP.st st75 ?_
                                      clear st75
                                      show WP p.tables e below _ T75 (mkF m 103 #[.val (.int p1)] [(.ref c_SILVER)])
                                      subst hG
                                      obtain ⟨fs, hr, hrun, hended, hW, hsame⟩ := X75.leave (v := some (.ref c_SILVER)) (fun h => by rw [Bd.returns] at h; cases h)
                                      refine WP.fin ⟨_, _, ?_, hrun, hended, _, _, rfl, ?_, ⟨_, rfl⟩, hW, hsame.mono (by decide) (by decide)⟩
                                      · exact retOut X75 hx Bd.returns rfl (Or.inr (Or.inr (Or.inr (Or.inr ⟨rfl, rfl, rfl⟩)))) (hb hby d2_103) hr
                                      · show Q2 Z p1 c_ROOK c_BISHOP c_GOLD c_SILVER c_KNIGHT c_LANCE c_PAWN c_KING h0 n0 _ T75.heap _
                                        rw [e75]
                                        exact ⟨(by simp [own_for, hk32, hk35, hk37, hk39, hk41, hk43, hk46, hk48, hk50, hk52, hk55, hk58, hk60, hk63, hk65, hk68, hk70, hk73]), NF, rfl⟩
                                    · skip
                                      have ihk32 : (p1).toInt ≠ 66 := fun q => hk32 (Int32.toInt_inj.mp (q.trans (by decide : 66 = ((66 : Int32)).toInt)))
                                      have ihk35 : (p1).toInt ≠ 67 := fun q => hk35 (Int32.toInt_inj.mp (q.trans (by decide : 67 = ((67 : Int32)).toInt)))
                                      have ihk37 : (p1).toInt ≠ 68 := fun q => hk37 (Int32.toInt_inj.mp (q.trans (by decide : 68 = ((68 : Int32)).toInt)))
                                      have ihk39 : (p1).toInt ≠ 69 := fun q => hk39 (Int32.toInt_inj.mp (q.trans (by decide : 69 = ((69 : Int32)).toInt)))
                                      have ihk41 : (p1).toInt ≠ 70 := fun q => hk41 (Int32.toInt_inj.mp (q.trans (by decide : 70 = ((70 : Int32)).toInt)))
                                      have ihk43 : (p1).toInt ≠ 71 := fun q => hk43 (Int32.toInt_inj.mp (q.trans (by decide : 71 = ((71 : Int32)).toInt)))
                                      have ihk46 : (p1).toInt ≠ 72 := fun q => hk46 (Int32.toInt_inj.mp (q.trans (by decide : 72 = ((72 : Int32)).toInt)))
                                      have ihk48 : (p1).toInt ≠ 73 := fun q => hk48 (Int32.toInt_inj.mp (q.trans (by decide : 73 = ((73 : Int32)).toInt)))
                                      have ihk50 : (p1).toInt ≠ 74 := fun q => hk50 (Int32.toInt_inj.mp (q.trans (by decide : 74 = ((74 : Int32)).toInt)))
                                      have ihk52 : (p1).toInt ≠ 75 := fun q => hk52 (Int32.toInt_inj.mp (q.trans (by decide : 75 = ((75 : Int32)).toInt)))
                                      have ihk55 : (p1).toInt ≠ 76 := fun q => hk55 (Int32.toInt_inj.mp (q.trans (by decide : 76 = ((76 : Int32)).toInt)))
                                      have ihk58 : (p1).toInt ≠ 77 := fun q => hk58 (Int32.toInt_inj.mp (q.trans (by decide : 77 = ((77 : Int32)).toInt)))
                                      have ihk60 : (p1).toInt ≠ 78 := fun q => hk60 (Int32.toInt_inj.mp (q.trans (by decide : 78 = ((78 : Int32)).toInt)))
                                      have ihk63 : (p1).toInt ≠ 79 := fun q => hk63 (Int32.toInt_inj.mp (q.trans (by decide : 79 = ((79 : Int32)).toInt)))
                                      have ihk65 : (p1).toInt ≠ 80 := fun q => hk65 (Int32.toInt_inj.mp (q.trans (by decide : 80 = ((80 : Int32)).toInt)))
                                      have ihk68 : (p1).toInt ≠ 81 := fun q => hk68 (Int32.toInt_inj.mp (q.trans (by decide : 81 = ((81 : Int32)).toInt)))
                                      have ihk70 : (p1).toInt ≠ 82 := fun q => hk70 (Int32.toInt_inj.mp (q.trans (by decide : 82 = ((82 : Int32)).toInt)))
                                      have ihk73 : (p1).toInt ≠ 83 := fun q => hk73 (Int32.toInt_inj.mp (q.trans (by decide : 83 = ((83 : Int32)).toInt)))
                                      have bk76 : ∀ t, Steps p.tables e below (s₁.setTop (mkF m 121 #[.val (.int p1)] [.null])) t → Steps p.tables e below (s₁.setTop (mkF m 1 #[.val (.int p1)] [(.int p1)])) t := fun t k => by
                                        refine XS.tswOut X0.here hx rfl (pc0 := 1) (pc' := 120) rfl (hb hby d2_1) rfl (by omega) (by decide) (by decide) ?_
                                        show Steps p.tables e below (s₁.setTop (mkF m 120 #[.val (.int p1)] [])) t
                                        refine XS.aconstNull X0.here hx rfl (hb hby d2_120) ?_
                                        exact k
                                      refine WP.st bk76 ?_
                                      clear bk76
                                      subst hG
                                      obtain ⟨fs, hr, hrun, hended, hW, hsame⟩ := X0.leave (v := some .null) (fun h => by rw [Bd.returns] at h; cases h)
                                      refine WP.fin ⟨_, _, ?_, hrun, hended, _, _, rfl, ?_, ⟨_, rfl⟩, hW, hsame.mono (by decide) (by decide)⟩
                                      · exact retOut X0 hx Bd.returns rfl (Or.inr (Or.inr (Or.inr (Or.inr ⟨rfl, rfl, rfl⟩)))) (hb hby d2_121) hr
                                      · show Q2 Z p1 c_ROOK c_BISHOP c_GOLD c_SILVER c_KNIGHT c_LANCE c_PAWN c_KING h0 n0 _ s₁.heap _
                                        rw [e0]
                                        exact ⟨(by simp [own_for, hk32, hk35, hk37, hk39, hk41, hk43, hk46, hk48, hk50, hk52, hk55, hk58, hk60, hk63, hk65, hk68, hk70, hk73]), NF, rfl⟩
theorem ef_3 (m : MethodId) (a1 : Addr) : entryFrame m #[(.ref a1)] 1 = mkF m 0 #[.val (.ref a1)] [] := by first | (simp [entryFrame, mkF, argsToLocals, Value.category]; done) | rfl
theorem d3_0 : decode prog_26_method_4_code 0 = .ok (.aload_n 0, 1) := by decide +kernel
theorem d3_1 : decode prog_26_method_4_code 1 = .ok (.getfield 47, 3) := by decide +kernel
theorem d3_4 : decode prog_26_method_4_code 4 = .ok (.ireturn, 1) := by decide +kernel
def Q3 (Z : State) (a1 : Addr) (w1 : Int32) (h0 : Heap) (n0 : Nat) (v : Option Value) (h : Heap) (L : List Loc) : Prop := v = some (.int (nar .char w1)) ∧ Fr n0 L ∧ h = h0
set_option maxRecDepth 65536 in
set_option maxHeartbeats 40000000 in
theorem rm3 (l : Launch) (Z : State) (a0 : Array Value) (hw : ∀ d ∈ tables_1, d.before a0 Z = true) (ws : List Jvm.Cond) (a1 : Addr) (w1 : Int32) (h0 : Heap) (n0 : Nat) (Z0 : n0 ≤ h0.size) (F_a1_letter : Fld Z h0 a1 "com/example/banmen/banmen/position/PieceType" "letter" "C" (.int w1)) :
    MetFree l (⟨"com/example/banmen/banmen/position/PieceType", "letter", "()C"⟩ : MethodName) (head1 (Jvm.Cond.code (⟨"com/example/banmen/banmen/position/PieceType", "letter", "()C"⟩ : MethodName) prog_26_method_4_code 1 (some .char) :: ws) ({ frames := 0, cells := 0, slots := 0, locals := 0 } : Room)) (fun a U => a = #[(.ref a1)] ∧ Z.Warmed39 U.vm ∧ U.heap = h0) (fun _ _ _ _ _ => True) (fun _ U o U' => ∃ v L, o = .returned v ∧ Q3 Z a1 w1 h0 n0 v U'.heap L ∧ FrameEnd U o U' L ({ frames := 0, cells := 0, slots := 0, locals := 0 } : Room).cells ({ frames := 0, cells := 0, slots := 0, locals := 0 } : Room).slots) := by
  refine MetFree.of_bodySF (plainFor_of_name pn_1) hisR ?_
  intro p e s m args below meth c s₁ Bd hml0 hP hK
  obtain ⟨rfl, hZ, hh⟩ := hP
  have hx := Bd.exec
  have hby := Bd.bytes
  have hml : c.maxLocals = 1 := hml0
  have hown : s.vm.findClass "com/example/banmen/banmen/position/PieceType" = some m.cls := findClass_of_methodNamed Bd.named
  have hnm := (name_of_methodNamed Bd.named Bd.method).1
  have X0 : Stand p l e ({ frames := 0, cells := 0, slots := 0, locals := 0 } : Room) s m #[(.ref a1)] below meth c s₁ [] 0 0 := Stand.of_body Bd
  have e0 : s₁.heap = h0 := by rw [← hh, Bd.state]; rfl
  have NF := Fr.nil n0
  refine WP.go ?_
  refine WP.cast (ef_3 m a1) ?_
  refine WP.name ?_
  intro G hG
  have bk77 : ∀ t, Steps p.tables e below (s₁.setTop (mkF m 1 #[.val (.ref a1)] [(.ref a1)])) t → Steps p.tables e below (s₁.setTop (mkF m 0 #[.val (.ref a1)] [])) t := fun t k => by
    refine XS.aloadN X0.here hx rfl (hb hby d3_0) rfl rfl ?_
    exact k
  refine WP.st bk77 ?_
  clear bk77
  obtain ⟨T78, X78, e78, st78⟩ := getF X0 hx hZ hown (host := "") (Or.inl (hw _ (List.mem_of_getElem? (i := 15) rfl))) Via.refl e0 F_a1_letter (g := (mkF m 1 #[.val (.ref a1)] [(.ref a1)])) rfl rfl (hb hby d3_1)
  refine WP.st st78 ?_
  clear st78
  show WP p.tables e below _ T78 (mkF m 4 #[.val (.ref a1)] [(.int w1)])
  subst hG
  obtain ⟨fs, hr, hrun, hended, hW, hsame⟩ := X78.leave (v := some (.int (nar .char w1))) (fun h => by rw [Bd.returns] at h; cases h)
  refine WP.fin ⟨_, _, ?_, hrun, hended, _, _, rfl, ?_, ⟨_, rfl⟩, hW, hsame.mono (by decide) (by decide)⟩
  · exact retN X78 hx (t := .char) Bd.returns (by simp) (hb hby d3_4) hr
  · show Q3 Z a1 w1 h0 n0 _ T78.heap _
    rw [e78]
    exact ⟨rfl, NF, rfl⟩
theorem ef_0 (m : MethodId) (p1 : Int32) (p2 : Int32) : entryFrame m #[(.int p1), (.int p2)] maxLocals = mkF m 0 #[.val (.int p1), .val (.int p2), .unset, .unset, .unset, .unset, .unset] [] := by first | (simp [entryFrame, mkF, argsToLocals, Value.category, maxLocals]; done) | rfl
theorem pd_0 : parseMethodDescriptor "(I)Lcom/example/banmen/banmen/position/PieceType;" = some ⟨[.int], some (.object "com/example/banmen/banmen/position/PieceType")⟩ := by decide +kernel
theorem pd_1 : parseMethodDescriptor "(C)Lcom/example/banmen/banmen/position/PieceType;" = some ⟨[.char], some (.object "com/example/banmen/banmen/position/PieceType")⟩ := by decide +kernel
theorem pd_2 : parseMethodDescriptor "()C" = some ⟨[], some .char⟩ := by decide +kernel
def Q0 (Z : State) (p1 : Int32) (p2 : Int32) (c_ROOK : Addr) (c_BISHOP : Addr) (c_GOLD : Addr) (c_SILVER : Addr) (c_KNIGHT : Addr) (c_LANCE : Addr) (c_PAWN : Addr) (c_KING : Addr) (h0 : Heap) (n0 : Nat) (v : Option Value) (h : Heap) (L : List Loc) : Prop := v = some (.int 1) ∧ Fr n0 L
set_option maxRecDepth 65536 in
set_option maxHeartbeats 40000000 in
theorem rm0 (l : Launch) (Z : State) (a0 : Array Value) (hw : ∀ d ∈ tables_1, d.before a0 Z = true) (ws : List Jvm.Cond) (p1 : Int32) (p2 : Int32) (c_ROOK : Addr) (c_BISHOP : Addr) (c_GOLD : Addr) (c_SILVER : Addr) (c_KNIGHT : Addr) (c_LANCE : Addr) (c_PAWN : Addr) (c_KING : Addr) (h0 : Heap) (n0 : Nat) (Z0 : n0 ≤ h0.size) (U_com_example_banmen_banmen_position_PieceType_ROOK : Sta Z h0 "com/example/banmen/banmen/position/PieceType" "ROOK" "Lcom/example/banmen/banmen/position/PieceType;" (.ref c_ROOK)) (U_com_example_banmen_banmen_position_PieceType_BISHOP : Sta Z h0 "com/example/banmen/banmen/position/PieceType" "BISHOP" "Lcom/example/banmen/banmen/position/PieceType;" (.ref c_BISHOP)) (U_com_example_banmen_banmen_position_PieceType_GOLD : Sta Z h0 "com/example/banmen/banmen/position/PieceType" "GOLD" "Lcom/example/banmen/banmen/position/PieceType;" (.ref c_GOLD)) (U_com_example_banmen_banmen_position_PieceType_SILVER : Sta Z h0 "com/example/banmen/banmen/position/PieceType" "SILVER" "Lcom/example/banmen/banmen/position/PieceType;" (.ref c_SILVER)) (U_com_example_banmen_banmen_position_PieceType_KNIGHT : Sta Z h0 "com/example/banmen/banmen/position/PieceType" "KNIGHT" "Lcom/example/banmen/banmen/position/PieceType;" (.ref c_KNIGHT)) (U_com_example_banmen_banmen_position_PieceType_LANCE : Sta Z h0 "com/example/banmen/banmen/position/PieceType" "LANCE" "Lcom/example/banmen/banmen/position/PieceType;" (.ref c_LANCE)) (U_com_example_banmen_banmen_position_PieceType_PAWN : Sta Z h0 "com/example/banmen/banmen/position/PieceType" "PAWN" "Lcom/example/banmen/banmen/position/PieceType;" (.ref c_PAWN)) (U_com_example_banmen_banmen_position_PieceType_KING : Sta Z h0 "com/example/banmen/banmen/position/PieceType" "KING" "Lcom/example/banmen/banmen/position/PieceType;" (.ref c_KING)) (E_c_ROOK : Exa Z h0 c_ROOK "com/example/banmen/banmen/position/PieceType") (E_c_BISHOP : Exa Z h0 c_BISHOP "com/example/banmen/banmen/position/PieceType") (E_c_GOLD : Exa Z h0 c_GOLD "com/example/banmen/banmen/position/PieceType") (E_c_SILVER : Exa Z h0 c_SILVER "com/example/banmen/banmen/position/PieceType") (E_c_KNIGHT : Exa Z h0 c_KNIGHT "com/example/banmen/banmen/position/PieceType") (E_c_LANCE : Exa Z h0 c_LANCE "com/example/banmen/banmen/position/PieceType") (E_c_PAWN : Exa Z h0 c_PAWN "com/example/banmen/banmen/position/PieceType") (E_c_KING : Exa Z h0 c_KING "com/example/banmen/banmen/position/PieceType") (F_c_ROOK_letter : Fld Z h0 c_ROOK "com/example/banmen/banmen/position/PieceType" "letter" "C" (.int (82 : Int32))) (F_c_BISHOP_letter : Fld Z h0 c_BISHOP "com/example/banmen/banmen/position/PieceType" "letter" "C" (.int (66 : Int32))) (F_c_GOLD_letter : Fld Z h0 c_GOLD "com/example/banmen/banmen/position/PieceType" "letter" "C" (.int (71 : Int32))) (F_c_SILVER_letter : Fld Z h0 c_SILVER "com/example/banmen/banmen/position/PieceType" "letter" "C" (.int (83 : Int32))) (F_c_KNIGHT_letter : Fld Z h0 c_KNIGHT "com/example/banmen/banmen/position/PieceType" "letter" "C" (.int (78 : Int32))) (F_c_LANCE_letter : Fld Z h0 c_LANCE "com/example/banmen/banmen/position/PieceType" "letter" "C" (.int (76 : Int32))) (F_c_PAWN_letter : Fld Z h0 c_PAWN "com/example/banmen/banmen/position/PieceType" "letter" "C" (.int (80 : Int32))) (F_c_KING_letter : Fld Z h0 c_KING "com/example/banmen/banmen/position/PieceType" "letter" "C" (.int (75 : Int32))) :
    MetFree l x (head1 (Jvm.Cond.code x code maxLocals ret :: ws) room_1) (fun a U => a = #[(.int p1), (.int p2)] ∧ Z.Warmed39 U.vm ∧ U.heap = h0) (fun _ _ _ _ _ => True) (fun _ U o U' => ∃ v L, o = .returned v ∧ Q0 Z p1 p2 c_ROOK c_BISHOP c_GOLD c_SILVER c_KNIGHT c_LANCE c_PAWN c_KING h0 n0 v U'.heap L ∧ FrameEnd U o U' L room_1.cells room_1.slots) := by
  refine MetFree.of_bodySF (plainFor_of_name pn_0) hisR ?_
  intro p e s m args below meth c s₁ Bd hml0 hP hK
  obtain ⟨rfl, hZ, hh⟩ := hP
  have hx := Bd.exec
  have hby := Bd.bytes
  have hml : c.maxLocals = 7 := hml0
  have hown : s.vm.findClass "com/example/banmen/banmen/position/PieceTypeForLetterPinLaw" = some m.cls := findClass_of_methodNamed Bd.named
  have hnm := (name_of_methodNamed Bd.named Bd.method).1
  have X0 : Stand p l e room_1 s m #[(.int p1), (.int p2)] below meth c s₁ [] 0 0 := Stand.of_body Bd
  have e0 : s₁.heap = h0 := by rw [← hh, Bd.state]; rfl
  have NF := Fr.nil n0
  refine WP.go ?_
  refine WP.cast (ef_0 m p1 p2) ?_
  refine WP.name ?_
  intro G hG
  have bk79 : ∀ t, Steps p.tables e below (s₁.setTop (mkF m 3 #[.val (.int p1), .val (.int p2), .val (.int (p1.toUInt32.toUInt16.toUInt32.toInt32)), .unset, .unset, .unset, .unset] [])) t → Steps p.tables e below (s₁.setTop (mkF m 0 #[.val (.int p1), .val (.int p2), .unset, .unset, .unset, .unset, .unset] [])) t := fun t k => by
    refine XS.iloadN X0.here hx rfl (hb hby at_0) rfl ?_
    show Steps p.tables e below (s₁.setTop (mkF m 1 #[.val (.int p1), .val (.int p2), .unset, .unset, .unset, .unset, .unset] [(.int p1)])) t
    refine XS.i2c X0.here hx rfl (hb hby at_1) rfl ?_
    show Steps p.tables e below (s₁.setTop (mkF m 2 #[.val (.int p1), .val (.int p2), .unset, .unset, .unset, .unset, .unset] [(.int (p1.toUInt32.toUInt16.toUInt32.toInt32))])) t
    refine XS.istoreN X0.here hx rfl (hb hby at_2) rfl (l' := #[.val (.int p1), .val (.int p2), .val (.int (p1.toUInt32.toUInt16.toUInt32.toInt32)), .unset, .unset, .unset, .unset]) rfl ?_
    exact k
  refine WP.st bk79 ?_
  clear bk79
  generalize (p1.toUInt32.toUInt16.toUInt32.toInt32) = ch
  show WP p.tables e below _ s₁ (mkF m 3 #[.val (.int p1), .val (.int p2), .val (.int ch), .unset, .unset, .unset, .unset] [])
  have bk80 : ∀ t, Steps p.tables e below (s₁.setTop (mkF m 7 #[.val (.int p1), .val (.int p2), .val (.int ch), .unset, .unset, .unset, .unset] [(.int (p2 &&& (7 : Int32)))])) t → Steps p.tables e below (s₁.setTop (mkF m 3 #[.val (.int p1), .val (.int p2), .val (.int ch), .unset, .unset, .unset, .unset] [])) t := fun t k => by
    refine XS.iloadN X0.here hx rfl (hb hby at_3) rfl ?_
    show Steps p.tables e below (s₁.setTop (mkF m 4 #[.val (.int p1), .val (.int p2), .val (.int ch), .unset, .unset, .unset, .unset] [(.int p2)])) t
    refine XS.bipush X0.here hx rfl (hb hby at_4) ?_
    show Steps p.tables e below (s₁.setTop (mkF m 6 #[.val (.int p1), .val (.int p2), .val (.int ch), .unset, .unset, .unset, .unset] [(.int (7 : Int32)), (.int p2)])) t
    refine XS.iand X0.here hx rfl (hb hby at_6) rfl ?_
    exact k
  refine WP.st bk80 ?_
  clear bk80
  obtain ⟨_, _, ⟨T81, L81, k81, n81⟩, -, X81, ⟨Lc81, hQ81, l81, y81, z81⟩, st81⟩ := Jvm.LawKit.callS X0 hx (y := (⟨"com/example/banmen/banmen/position/PieceTypeForLetterPinLaw", "pick", "(I)Lcom/example/banmen/banmen/position/PieceType;"⟩ : MethodName)) hown (mvT hZ (hw _ (List.mem_of_getElem? (i := 0) rfl))) (mvT hZ (hw _ (List.mem_of_getElem? (i := 1) rfl))) (mvT hZ (hw _ (List.mem_of_getElem? (i := 2) rfl))) (mvT hZ (hw _ (List.mem_of_getElem? (i := 3) rfl))) (by decide) (backOf (W := 0) (rm1 l Z a0 hw [] (p2 &&& (7 : Int32)) c_ROOK c_BISHOP c_GOLD c_SILVER c_KNIGHT c_LANCE c_PAWN c_KING h0 n0 Z0 U_com_example_banmen_banmen_position_PieceType_ROOK U_com_example_banmen_banmen_position_PieceType_BISHOP U_com_example_banmen_banmen_position_PieceType_GOLD U_com_example_banmen_banmen_position_PieceType_SILVER U_com_example_banmen_banmen_position_PieceType_KNIGHT U_com_example_banmen_banmen_position_PieceType_LANCE U_com_example_banmen_banmen_position_PieceType_PAWN U_com_example_banmen_banmen_position_PieceType_KING) hZ (hw _ (List.mem_of_getElem? (i := 3) rfl)) (hw _ (List.mem_of_getElem? (i := 2) rfl)) (by decide) (by decide)) (g := (mkF m 7 #[.val (.int p1), .val (.int p2), .val (.int ch), .unset, .unset, .unset, .unset] [(.int (p2 &&& (7 : Int32)))])) rfl (by rw [hml]; rfl) (argsL := [(.int (p2 &&& (7 : Int32)))]) (rest := []) (lenOf pd_0 rfl) rfl (by show 2 * 0 + _ ≤ _; exact Nat.le_of_eq rfl) (hb hby at_7) (fun _ _ => ⟨rfl, e0, (by decide : 0 + 0 ≤ _), (by decide : 0 + 0 ≤ _)⟩)
  dsimp only [Pt.U, Pt.locs, Pt.cells, Pt.slots] at X81 l81 y81 z81 st81 hQ81
  subst l81 y81 z81
  obtain ⟨rfl, Nq81, Kq81⟩ := hQ81
  replace NF := Fr.app NF Nq81
  clear Nq81
  refine WP.st st81 ?_
  clear st81
  replace Kq81 := Kq81.trans (rfl : h0 = h0)
  show WP p.tables e below _ T81 (mkF m 10 #[.val (.int p1), .val (.int p2), .val (.int ch), .unset, .unset, .unset, .unset] [(.ref (own_pick (p2 &&& (7 : Int32)) c_ROOK c_BISHOP c_GOLD c_SILVER c_KNIGHT c_LANCE c_PAWN c_KING))])
  obtain ⟨tt, lt, ht, E_tt, F_tt_letter, hfor, hnl⟩ : ∃ (tt : Addr) (lt : Int32), (own_pick (p2 &&& (7 : Int32)) c_ROOK c_BISHOP c_GOLD c_SILVER c_KNIGHT c_LANCE c_PAWN c_KING) = tt ∧ Exa Z h0 tt "com/example/banmen/banmen/position/PieceType" ∧ Fld Z h0 tt "com/example/banmen/banmen/position/PieceType" "letter" "C" (.int lt) ∧ own_for lt c_ROOK c_BISHOP c_GOLD c_SILVER c_KNIGHT c_LANCE c_PAWN c_KING = .ref tt ∧ nar .char lt = lt := by
    unfold own_pick
    by_cases hp0 : (p2 &&& (7 : Int32)) = 0
    · exact ⟨_, 82, by simp [hp0], E_c_ROOK, F_c_ROOK_letter, by simp [own_for], by decide⟩
    by_cases hp1 : (p2 &&& (7 : Int32)) = 1
    · exact ⟨_, 66, by simp [hp0, hp1], E_c_BISHOP, F_c_BISHOP_letter, by simp [own_for], by decide⟩
    by_cases hp2 : (p2 &&& (7 : Int32)) = 2
    · exact ⟨_, 71, by simp [hp0, hp1, hp2], E_c_GOLD, F_c_GOLD_letter, by simp [own_for], by decide⟩
    by_cases hp3 : (p2 &&& (7 : Int32)) = 3
    · exact ⟨_, 83, by simp [hp0, hp1, hp2, hp3], E_c_SILVER, F_c_SILVER_letter, by simp [own_for], by decide⟩
    by_cases hp4 : (p2 &&& (7 : Int32)) = 4
    · exact ⟨_, 78, by simp [hp0, hp1, hp2, hp3, hp4], E_c_KNIGHT, F_c_KNIGHT_letter, by simp [own_for], by decide⟩
    by_cases hp5 : (p2 &&& (7 : Int32)) = 5
    · exact ⟨_, 76, by simp [hp0, hp1, hp2, hp3, hp4, hp5], E_c_LANCE, F_c_LANCE_letter, by simp [own_for], by decide⟩
    by_cases hp6 : (p2 &&& (7 : Int32)) = 6
    · exact ⟨_, 80, by simp [hp0, hp1, hp2, hp3, hp4, hp5, hp6], E_c_PAWN, F_c_PAWN_letter, by simp [own_for], by decide⟩
    exact ⟨_, 75, by simp [hp0, hp1, hp2, hp3, hp4, hp5, hp6], E_c_KING, F_c_KING_letter, by simp [own_for], by decide⟩
  rw [ht]
  show WP p.tables e below _ T81 (mkF m 10 #[.val (.int p1), .val (.int p2), .val (.int ch), .unset, .unset, .unset, .unset] [(.ref tt)])
  have bk82 : ∀ t, Steps p.tables e below (T81.setTop (mkF m 12 #[.val (.int p1), .val (.int p2), .val (.int ch), .val (.ref tt), .unset, .unset, .unset] [(.int ch)])) t → Steps p.tables e below (T81.setTop (mkF m 10 #[.val (.int p1), .val (.int p2), .val (.int ch), .unset, .unset, .unset, .unset] [(.ref tt)])) t := fun t k => by
    refine XS.astoreN X81.here hx rfl (hb hby at_10) rfl rfl (l' := #[.val (.int p1), .val (.int p2), .val (.int ch), .val (.ref tt), .unset, .unset, .unset]) rfl ?_
    show Steps p.tables e below (T81.setTop (mkF m 11 #[.val (.int p1), .val (.int p2), .val (.int ch), .val (.ref tt), .unset, .unset, .unset] [])) t
    refine XS.iloadN X81.here hx rfl (hb hby at_11) rfl ?_
    exact k
  refine WP.st bk82 ?_
  clear bk82
  obtain ⟨_, _, ⟨T83, L83, k83, n83⟩, -, X83, ⟨Lc83, hQ83, l83, y83, z83⟩, st83⟩ := Jvm.LawKit.callS X81 hx (y := (⟨"com/example/banmen/banmen/position/PieceType", "forLetter", "(C)Lcom/example/banmen/banmen/position/PieceType;"⟩ : MethodName)) hown (mvT hZ (hw _ (List.mem_of_getElem? (i := 7) rfl))) (mvT hZ (hw _ (List.mem_of_getElem? (i := 8) rfl))) (mvT hZ (hw _ (List.mem_of_getElem? (i := 5) rfl))) (mvT hZ (hw _ (List.mem_of_getElem? (i := 9) rfl))) (by decide) (backOf (W := 0) (rm2 l Z a0 hw [] ch c_ROOK c_BISHOP c_GOLD c_SILVER c_KNIGHT c_LANCE c_PAWN c_KING h0 n0 Z0 U_com_example_banmen_banmen_position_PieceType_ROOK U_com_example_banmen_banmen_position_PieceType_BISHOP U_com_example_banmen_banmen_position_PieceType_GOLD U_com_example_banmen_banmen_position_PieceType_SILVER U_com_example_banmen_banmen_position_PieceType_KNIGHT U_com_example_banmen_banmen_position_PieceType_LANCE U_com_example_banmen_banmen_position_PieceType_PAWN U_com_example_banmen_banmen_position_PieceType_KING) hZ (hw _ (List.mem_of_getElem? (i := 9) rfl)) (hw _ (List.mem_of_getElem? (i := 5) rfl)) (by decide) (by decide)) (g := (mkF m 12 #[.val (.int p1), .val (.int p2), .val (.int ch), .val (.ref tt), .unset, .unset, .unset] [(.int ch)])) rfl (by rw [hml]; rfl) (argsL := [(.int ch)]) (rest := []) (lenOf pd_1 rfl) rfl (by show 2 * 0 + _ ≤ _; exact Nat.le_of_eq rfl) (hb hby at_12) (fun _ _ => ⟨rfl, Kq81, (by decide : 0 + 0 ≤ _), (by decide : 0 + 0 ≤ _)⟩)
  dsimp only [Pt.U, Pt.locs, Pt.cells, Pt.slots] at X83 l83 y83 z83 st83 hQ83
  subst l83 y83 z83
  obtain ⟨rfl, Nq83, Kq83⟩ := hQ83
  replace NF := Fr.app NF Nq83
  clear Nq83
  refine WP.st st83 ?_
  clear st83
  replace Kq83 := Kq83.trans (rfl : h0 = h0)
  show WP p.tables e below _ T83 (mkF m 15 #[.val (.int p1), .val (.int p2), .val (.int ch), .val (.ref tt), .unset, .unset, .unset] [(own_for ch c_ROOK c_BISHOP c_GOLD c_SILVER c_KNIGHT c_LANCE c_PAWN c_KING)])
  have J84 : ∀ (Tj84 : State) (Lj84 : List Loc)  (rv4 : Value), Stand p l e room_1 s m #[(.int p1), (.int p2)] below meth c Tj84 Lj84 0 0 → Tj84.heap = h0 → Fr n0 Lj84 → WP p.tables e below G Tj84 (mkF m 36 #[.val (.int p1), .val (.int p2), .val (.int ch), .val (.ref tt), .val rv4, .unset, .unset] [(.int (1 : Int32))]) := by
    clear NF
    intro Tj84 Lj84  rv4 X84 ej84 NF
    have bk85 : ∀ t, Steps p.tables e below (Tj84.setTop (mkF m 39 #[.val (.int p1), .val (.int p2), .val (.int ch), .val (.ref tt), .val rv4, .val (.int (1 : Int32)), .unset] [(.ref tt)])) t → Steps p.tables e below (Tj84.setTop (mkF m 36 #[.val (.int p1), .val (.int p2), .val (.int ch), .val (.ref tt), .val rv4, .unset, .unset] [(.int (1 : Int32))])) t := fun t k => by
      refine XS.istore X84.here hx rfl (hb hby at_36) rfl (l' := #[.val (.int p1), .val (.int p2), .val (.int ch), .val (.ref tt), .val rv4, .val (.int (1 : Int32)), .unset]) rfl ?_
      show Steps p.tables e below (Tj84.setTop (mkF m 38 #[.val (.int p1), .val (.int p2), .val (.int ch), .val (.ref tt), .val rv4, .val (.int (1 : Int32)), .unset] [])) t
      refine XS.aloadN X84.here hx rfl (hb hby at_38) rfl rfl ?_
      exact k
    refine WP.st bk85 ?_
    clear bk85
    obtain ⟨cq86, kq86, q86a, q86b, q86c⟩ := isOf hZ ej84 E_tt
    obtain ⟨_, _, ⟨T86, L86, k86, n86⟩, -, X86, ⟨Lc86, hQ86, l86, y86, z86⟩, st86⟩ := X84.virtualBack hx (y := (⟨"com/example/banmen/banmen/position/PieceType", "letter", "()C"⟩ : MethodName)) (z := (⟨"com/example/banmen/banmen/position/PieceType", "letter", "()C"⟩ : MethodName)) hown (mvT hZ (hw _ (List.mem_of_getElem? (i := 10) rfl))) (mvT hZ (hw _ (List.mem_of_getElem? (i := 11) rfl))) (notFace_of_selects (args := #[]) (mvT hZ (hw _ (List.mem_of_getElem? (i := 13) rfl)))) (mvT hZ (hw _ (List.mem_of_getElem? (i := 13) rfl))) (mvT hZ (hw _ (List.mem_of_getElem? (i := 12) rfl))) (by decide) (backOf (W := 0) (rm3 l Z a0 hw [] tt lt h0 n0 Z0 F_tt_letter) hZ (hw _ (List.mem_of_getElem? (i := 14) rfl)) (hw _ (List.mem_of_getElem? (i := 5) rfl)) (by decide) (by decide)) q86a q86c (g := (mkF m 39 #[.val (.int p1), .val (.int p2), .val (.int ch), .val (.ref tt), .val rv4, .val (.int (1 : Int32)), .unset] [(.ref tt)])) rfl (by rw [hml]; rfl) (Steps.refl _) (argsL := []) (rest := []) (lenOf pd_2 rfl) rfl (by show 2 * 0 + _ ≤ _; exact Nat.le_of_eq rfl) (hb hby at_39) (fun _ _ => ⟨rfl, ej84, (by decide : 0 + 0 ≤ _), (by decide : 0 + 0 ≤ _)⟩)
    dsimp only [Pt.U, Pt.locs, Pt.cells, Pt.slots] at X86 l86 y86 z86 st86 hQ86
    subst l86 y86 z86
    obtain ⟨rfl, Nq86, Kq86⟩ := hQ86
    replace NF := Fr.app NF Nq86
    clear Nq86
    refine WP.tr st86 ?_
    clear st86
    replace Kq86 := Kq86.trans (rfl : h0 = h0)
    show WP p.tables e below _ T86 (mkF m 42 #[.val (.int p1), .val (.int p2), .val (.int ch), .val (.ref tt), .val rv4, .val (.int (1 : Int32)), .unset] [(.int (nar .char lt))])
    rw [show (nar .char lt) = lt from hnl]
    show WP p.tables e below _ T86 (mkF m 42 #[.val (.int p1), .val (.int p2), .val (.int ch), .val (.ref tt), .val rv4, .val (.int (1 : Int32)), .unset] [(.int lt)])
    obtain ⟨_, _, ⟨T87, L87, k87, n87⟩, -, X87, ⟨Lc87, hQ87, l87, y87, z87⟩, st87⟩ := Jvm.LawKit.callS X86 hx (y := (⟨"com/example/banmen/banmen/position/PieceType", "forLetter", "(C)Lcom/example/banmen/banmen/position/PieceType;"⟩ : MethodName)) hown (mvT hZ (hw _ (List.mem_of_getElem? (i := 7) rfl))) (mvT hZ (hw _ (List.mem_of_getElem? (i := 8) rfl))) (mvT hZ (hw _ (List.mem_of_getElem? (i := 5) rfl))) (mvT hZ (hw _ (List.mem_of_getElem? (i := 9) rfl))) (by decide) (backOf (W := 0) (rm2 l Z a0 hw [] lt c_ROOK c_BISHOP c_GOLD c_SILVER c_KNIGHT c_LANCE c_PAWN c_KING h0 n0 Z0 U_com_example_banmen_banmen_position_PieceType_ROOK U_com_example_banmen_banmen_position_PieceType_BISHOP U_com_example_banmen_banmen_position_PieceType_GOLD U_com_example_banmen_banmen_position_PieceType_SILVER U_com_example_banmen_banmen_position_PieceType_KNIGHT U_com_example_banmen_banmen_position_PieceType_LANCE U_com_example_banmen_banmen_position_PieceType_PAWN U_com_example_banmen_banmen_position_PieceType_KING) hZ (hw _ (List.mem_of_getElem? (i := 9) rfl)) (hw _ (List.mem_of_getElem? (i := 5) rfl)) (by decide) (by decide)) (g := (mkF m 42 #[.val (.int p1), .val (.int p2), .val (.int ch), .val (.ref tt), .val rv4, .val (.int (1 : Int32)), .unset] [(.int lt)])) rfl (by rw [hml]; rfl) (argsL := [(.int lt)]) (rest := []) (lenOf pd_1 rfl) rfl (by show 2 * 0 + _ ≤ _; exact Nat.le_of_eq rfl) (hb hby at_42) (fun _ _ => ⟨rfl, Kq86, (by decide : 0 + 0 ≤ _), (by decide : 0 + 0 ≤ _)⟩)
    dsimp only [Pt.U, Pt.locs, Pt.cells, Pt.slots] at X87 l87 y87 z87 st87 hQ87
    subst l87 y87 z87
    obtain ⟨rfl, Nq87, Kq87⟩ := hQ87
    replace NF := Fr.app NF Nq87
    clear Nq87
    refine WP.st st87 ?_
    clear st87
    replace Kq87 := Kq87.trans (rfl : h0 = h0)
    show WP p.tables e below _ T87 (mkF m 45 #[.val (.int p1), .val (.int p2), .val (.int ch), .val (.ref tt), .val rv4, .val (.int (1 : Int32)), .unset] [(own_for lt c_ROOK c_BISHOP c_GOLD c_SILVER c_KNIGHT c_LANCE c_PAWN c_KING)])
    rw [hfor]
    show WP p.tables e below _ T87 (mkF m 45 #[.val (.int p1), .val (.int p2), .val (.int ch), .val (.ref tt), .val rv4, .val (.int (1 : Int32)), .unset] [(.ref tt)])
    have bk88 : ∀ t, Steps p.tables e below (T87.setTop (mkF m 46 #[.val (.int p1), .val (.int p2), .val (.int ch), .val (.ref tt), .val rv4, .val (.int (1 : Int32)), .unset] [(.ref tt), (.ref tt)])) t → Steps p.tables e below (T87.setTop (mkF m 45 #[.val (.int p1), .val (.int p2), .val (.int ch), .val (.ref tt), .val rv4, .val (.int (1 : Int32)), .unset] [(.ref tt)])) t := fun t k => by
      refine XS.aloadN X87.here hx rfl (hb hby at_45) rfl rfl ?_
      exact k
    refine WP.st bk88 ?_
    clear bk88
    have bk89 : ∀ t, Steps p.tables e below (T87.setTop (mkF m 71 #[.val (.int p1), .val (.int p2), .val (.int ch), .val (.ref tt), .val rv4, .val (.int (1 : Int32)), .val (.int (1 : Int32))] [(.int (1 : Int32))])) t → Steps p.tables e below (T87.setTop (mkF m 46 #[.val (.int p1), .val (.int p2), .val (.int ch), .val (.ref tt), .val rv4, .val (.int (1 : Int32)), .unset] [(.ref tt), (.ref tt)])) t := fun t k => by
      refine Jvm.RoadKit.acmp (g := (mkF m 46 #[.val (.int p1), .val (.int p2), .val (.int ch), .val (.ref tt), .val rv4, .val (.int (1 : Int32)), .unset] [(.ref tt), (.ref tt)])) X87 hx rfl rfl rfl (pc0 := 46) (pc' := 49) (same := true) rfl (hb hby at_46) rfl (decide_eq_true rfl) (by decide) (by decide) ?_
      show Steps p.tables e below (T87.setTop (mkF m 49 #[.val (.int p1), .val (.int p2), .val (.int ch), .val (.ref tt), .val rv4, .val (.int (1 : Int32)), .unset] [])) t
      refine XS.iconst X87.here hx rfl (hb hby at_49) ?_
      show Steps p.tables e below (T87.setTop (mkF m 50 #[.val (.int p1), .val (.int p2), .val (.int ch), .val (.ref tt), .val rv4, .val (.int (1 : Int32)), .unset] [(.int (1 : Int32))])) t
      refine XS.goto X87.here hx rfl (pc0 := 50) (pc' := 54) rfl (hb hby at_50) (by decide) (by decide) ?_
      show Steps p.tables e below (T87.setTop (mkF m 54 #[.val (.int p1), .val (.int p2), .val (.int ch), .val (.ref tt), .val rv4, .val (.int (1 : Int32)), .unset] [(.int (1 : Int32))])) t
      refine XS.istore X87.here hx rfl (hb hby at_54) rfl (l' := #[.val (.int p1), .val (.int p2), .val (.int ch), .val (.ref tt), .val rv4, .val (.int (1 : Int32)), .val (.int (1 : Int32))]) rfl ?_
      show Steps p.tables e below (T87.setTop (mkF m 56 #[.val (.int p1), .val (.int p2), .val (.int ch), .val (.ref tt), .val rv4, .val (.int (1 : Int32)), .val (.int (1 : Int32))] [])) t
      refine XS.iload X87.here hx rfl (hb hby at_56) rfl ?_
      show Steps p.tables e below (T87.setTop (mkF m 58 #[.val (.int p1), .val (.int p2), .val (.int ch), .val (.ref tt), .val rv4, .val (.int (1 : Int32)), .val (.int (1 : Int32))] [(.int (1 : Int32))])) t
      refine XS.ifNo X87.here hx rfl (hb hby at_58) rfl ((if0 _ _).trans (feq (by decide : ¬ ((1 : Int32) = (0 : Int32)))).1) ?_
      show Steps p.tables e below (T87.setTop (mkF m 61 #[.val (.int p1), .val (.int p2), .val (.int ch), .val (.ref tt), .val rv4, .val (.int (1 : Int32)), .val (.int (1 : Int32))] [])) t
      refine XS.iload X87.here hx rfl (hb hby at_61) rfl ?_
      show Steps p.tables e below (T87.setTop (mkF m 63 #[.val (.int p1), .val (.int p2), .val (.int ch), .val (.ref tt), .val rv4, .val (.int (1 : Int32)), .val (.int (1 : Int32))] [(.int (1 : Int32))])) t
      refine XS.ifNo X87.here hx rfl (hb hby at_63) rfl ((if0 _ _).trans (feq (by decide : ¬ ((1 : Int32) = (0 : Int32)))).1) ?_
      show Steps p.tables e below (T87.setTop (mkF m 66 #[.val (.int p1), .val (.int p2), .val (.int ch), .val (.ref tt), .val rv4, .val (.int (1 : Int32)), .val (.int (1 : Int32))] [])) t
      refine XS.iconst X87.here hx rfl (hb hby at_66) ?_
      show Steps p.tables e below (T87.setTop (mkF m 67 #[.val (.int p1), .val (.int p2), .val (.int ch), .val (.ref tt), .val rv4, .val (.int (1 : Int32)), .val (.int (1 : Int32))] [(.int (1 : Int32))])) t
      refine XS.goto X87.here hx rfl (pc0 := 67) (pc' := 71) rfl (hb hby at_67) (by decide) (by decide) ?_
      exact k
    refine WP.st bk89 ?_
    clear bk89
    subst hG
    obtain ⟨fs, hr, hrun, hended, hW, hsame⟩ := X87.leave (v := some (.int (1 : Int32))) (fun h => by rw [Bd.returns] at h; cases h)
    refine WP.fin ⟨_, _, ?_, hrun, hended, _, _, rfl, ?_, ⟨_, rfl⟩, hW, hsame.mono (by decide) (by decide)⟩
    · exact retN X87 hx (t := .boolean) Bd.returns (by simp) (hb hby at_71) hr
    · show Q0 Z p1 p2 c_ROOK c_BISHOP c_GOLD c_SILVER c_KNIGHT c_LANCE c_PAWN c_KING h0 n0 _ T87.heap _
      rw [Kq87]
      exact ⟨rfl, NF⟩
  by_cases hl0 : ch = (82 : Int32)
  · skip
    rw [show own_for ch c_ROOK c_BISHOP c_GOLD c_SILVER c_KNIGHT c_LANCE c_PAWN c_KING = .ref c_ROOK from by simp [own_for, hl0]]
    show WP p.tables e below _ T83 (mkF m 15 #[.val (.int p1), .val (.int p2), .val (.int ch), .val (.ref tt), .unset, .unset, .unset] [(.ref c_ROOK)])
    have bk90 : ∀ t, Steps p.tables e below (T83.setTop (mkF m 24 #[.val (.int p1), .val (.int p2), .val (.int ch), .val (.ref tt), .val (.ref c_ROOK), .unset, .unset] [(.ref c_ROOK)])) t → Steps p.tables e below (T83.setTop (mkF m 15 #[.val (.int p1), .val (.int p2), .val (.int ch), .val (.ref tt), .unset, .unset, .unset] [(.ref c_ROOK)])) t := fun t k => by
      refine XS.astore X83.here hx rfl (hb hby at_15) rfl rfl (l' := #[.val (.int p1), .val (.int p2), .val (.int ch), .val (.ref tt), .val (.ref c_ROOK), .unset, .unset]) rfl ?_
      show Steps p.tables e below (T83.setTop (mkF m 17 #[.val (.int p1), .val (.int p2), .val (.int ch), .val (.ref tt), .val (.ref c_ROOK), .unset, .unset] [])) t
      refine XS.aload X83.here hx rfl (hb hby at_17) rfl rfl ?_
      show Steps p.tables e below (T83.setTop (mkF m 19 #[.val (.int p1), .val (.int p2), .val (.int ch), .val (.ref tt), .val (.ref c_ROOK), .unset, .unset] [(.ref c_ROOK)])) t
      refine XS.ifnullNo X83.here hx rfl (hb hby at_19) rfl ?_
      show Steps p.tables e below (T83.setTop (mkF m 22 #[.val (.int p1), .val (.int p2), .val (.int ch), .val (.ref tt), .val (.ref c_ROOK), .unset, .unset] [])) t
      refine XS.aload X83.here hx rfl (hb hby at_22) rfl rfl ?_
      exact k
    refine WP.st bk90 ?_
    clear bk90
    obtain ⟨cq91, kq91, q91a, q91b, q91c⟩ := isOf hZ Kq83 E_c_ROOK
    obtain ⟨_, _, ⟨T91, L91, k91, n91⟩, -, X91, ⟨Lc91, hQ91, l91, y91, z91⟩, st91⟩ := X83.virtualBack hx (y := (⟨"com/example/banmen/banmen/position/PieceType", "letter", "()C"⟩ : MethodName)) (z := (⟨"com/example/banmen/banmen/position/PieceType", "letter", "()C"⟩ : MethodName)) hown (mvT hZ (hw _ (List.mem_of_getElem? (i := 10) rfl))) (mvT hZ (hw _ (List.mem_of_getElem? (i := 11) rfl))) (notFace_of_selects (args := #[]) (mvT hZ (hw _ (List.mem_of_getElem? (i := 13) rfl)))) (mvT hZ (hw _ (List.mem_of_getElem? (i := 13) rfl))) (mvT hZ (hw _ (List.mem_of_getElem? (i := 12) rfl))) (by decide) (backOf (W := 0) (rm3 l Z a0 hw [] c_ROOK (82 : Int32) h0 n0 Z0 F_c_ROOK_letter) hZ (hw _ (List.mem_of_getElem? (i := 14) rfl)) (hw _ (List.mem_of_getElem? (i := 5) rfl)) (by decide) (by decide)) q91a q91c (g := (mkF m 24 #[.val (.int p1), .val (.int p2), .val (.int ch), .val (.ref tt), .val (.ref c_ROOK), .unset, .unset] [(.ref c_ROOK)])) rfl (by rw [hml]; rfl) (Steps.refl _) (argsL := []) (rest := []) (lenOf pd_2 rfl) rfl (by show 2 * 0 + _ ≤ _; exact Nat.le_of_eq rfl) (hb hby at_24) (fun _ _ => ⟨rfl, Kq83, (by decide : 0 + 0 ≤ _), (by decide : 0 + 0 ≤ _)⟩)
    dsimp only [Pt.U, Pt.locs, Pt.cells, Pt.slots] at X91 l91 y91 z91 st91 hQ91
    subst l91 y91 z91
    obtain ⟨rfl, Nq91, Kq91⟩ := hQ91
    replace NF := Fr.app NF Nq91
    clear Nq91
    refine WP.tr st91 ?_
    clear st91
    replace Kq91 := Kq91.trans (rfl : h0 = h0)
    show WP p.tables e below _ T91 (mkF m 27 #[.val (.int p1), .val (.int p2), .val (.int ch), .val (.ref tt), .val (.ref c_ROOK), .unset, .unset] [(.int (nar .char (82 : Int32)))])
    rw [show (nar .char (82 : Int32)) = (82 : Int32) from by decide]
    show WP p.tables e below _ T91 (mkF m 27 #[.val (.int p1), .val (.int p2), .val (.int ch), .val (.ref tt), .val (.ref c_ROOK), .unset, .unset] [(.int (82 : Int32))])
    have bk92 : ∀ t, Steps p.tables e below (T91.setTop (mkF m 36 #[.val (.int p1), .val (.int p2), .val (.int ch), .val (.ref tt), .val (.ref c_ROOK), .unset, .unset] [(.int (1 : Int32))])) t → Steps p.tables e below (T91.setTop (mkF m 27 #[.val (.int p1), .val (.int p2), .val (.int ch), .val (.ref tt), .val (.ref c_ROOK), .unset, .unset] [(.int (82 : Int32))])) t := fun t k => by
      refine XS.iloadN X91.here hx rfl (hb hby at_27) rfl ?_
      show Steps p.tables e below (T91.setTop (mkF m 28 #[.val (.int p1), .val (.int p2), .val (.int ch), .val (.ref tt), .val (.ref c_ROOK), .unset, .unset] [(.int ch), (.int (82 : Int32))])) t
      refine XS.icmpNo X91.here hx rfl (hb hby at_28) rfl (teq hl0.symm).2 ?_
      show Steps p.tables e below (T91.setTop (mkF m 31 #[.val (.int p1), .val (.int p2), .val (.int ch), .val (.ref tt), .val (.ref c_ROOK), .unset, .unset] [])) t
      refine XS.iconst X91.here hx rfl (hb hby at_31) ?_
      show Steps p.tables e below (T91.setTop (mkF m 32 #[.val (.int p1), .val (.int p2), .val (.int ch), .val (.ref tt), .val (.ref c_ROOK), .unset, .unset] [(.int (1 : Int32))])) t
      refine XS.goto X91.here hx rfl (pc0 := 32) (pc' := 36) rfl (hb hby at_32) (by decide) (by decide) ?_
      exact k
    refine WP.st bk92 ?_
    clear bk92
    exact J84 _ _  (.ref c_ROOK) (ownWider X91 (by decide) (by decide)) Kq91 NF  
  · skip
    by_cases hl1 : ch = (66 : Int32)
    · skip
      rw [show own_for ch c_ROOK c_BISHOP c_GOLD c_SILVER c_KNIGHT c_LANCE c_PAWN c_KING = .ref c_BISHOP from by simp [own_for, hl1]]
      show WP p.tables e below _ T83 (mkF m 15 #[.val (.int p1), .val (.int p2), .val (.int ch), .val (.ref tt), .unset, .unset, .unset] [(.ref c_BISHOP)])
      have bk93 : ∀ t, Steps p.tables e below (T83.setTop (mkF m 24 #[.val (.int p1), .val (.int p2), .val (.int ch), .val (.ref tt), .val (.ref c_BISHOP), .unset, .unset] [(.ref c_BISHOP)])) t → Steps p.tables e below (T83.setTop (mkF m 15 #[.val (.int p1), .val (.int p2), .val (.int ch), .val (.ref tt), .unset, .unset, .unset] [(.ref c_BISHOP)])) t := fun t k => by
        refine XS.astore X83.here hx rfl (hb hby at_15) rfl rfl (l' := #[.val (.int p1), .val (.int p2), .val (.int ch), .val (.ref tt), .val (.ref c_BISHOP), .unset, .unset]) rfl ?_
        show Steps p.tables e below (T83.setTop (mkF m 17 #[.val (.int p1), .val (.int p2), .val (.int ch), .val (.ref tt), .val (.ref c_BISHOP), .unset, .unset] [])) t
        refine XS.aload X83.here hx rfl (hb hby at_17) rfl rfl ?_
        show Steps p.tables e below (T83.setTop (mkF m 19 #[.val (.int p1), .val (.int p2), .val (.int ch), .val (.ref tt), .val (.ref c_BISHOP), .unset, .unset] [(.ref c_BISHOP)])) t
        refine XS.ifnullNo X83.here hx rfl (hb hby at_19) rfl ?_
        show Steps p.tables e below (T83.setTop (mkF m 22 #[.val (.int p1), .val (.int p2), .val (.int ch), .val (.ref tt), .val (.ref c_BISHOP), .unset, .unset] [])) t
        refine XS.aload X83.here hx rfl (hb hby at_22) rfl rfl ?_
        exact k
      refine WP.st bk93 ?_
      clear bk93
      obtain ⟨cq94, kq94, q94a, q94b, q94c⟩ := isOf hZ Kq83 E_c_BISHOP
      obtain ⟨_, _, ⟨T94, L94, k94, n94⟩, -, X94, ⟨Lc94, hQ94, l94, y94, z94⟩, st94⟩ := X83.virtualBack hx (y := (⟨"com/example/banmen/banmen/position/PieceType", "letter", "()C"⟩ : MethodName)) (z := (⟨"com/example/banmen/banmen/position/PieceType", "letter", "()C"⟩ : MethodName)) hown (mvT hZ (hw _ (List.mem_of_getElem? (i := 10) rfl))) (mvT hZ (hw _ (List.mem_of_getElem? (i := 11) rfl))) (notFace_of_selects (args := #[]) (mvT hZ (hw _ (List.mem_of_getElem? (i := 13) rfl)))) (mvT hZ (hw _ (List.mem_of_getElem? (i := 13) rfl))) (mvT hZ (hw _ (List.mem_of_getElem? (i := 12) rfl))) (by decide) (backOf (W := 0) (rm3 l Z a0 hw [] c_BISHOP (66 : Int32) h0 n0 Z0 F_c_BISHOP_letter) hZ (hw _ (List.mem_of_getElem? (i := 14) rfl)) (hw _ (List.mem_of_getElem? (i := 5) rfl)) (by decide) (by decide)) q94a q94c (g := (mkF m 24 #[.val (.int p1), .val (.int p2), .val (.int ch), .val (.ref tt), .val (.ref c_BISHOP), .unset, .unset] [(.ref c_BISHOP)])) rfl (by rw [hml]; rfl) (Steps.refl _) (argsL := []) (rest := []) (lenOf pd_2 rfl) rfl (by show 2 * 0 + _ ≤ _; exact Nat.le_of_eq rfl) (hb hby at_24) (fun _ _ => ⟨rfl, Kq83, (by decide : 0 + 0 ≤ _), (by decide : 0 + 0 ≤ _)⟩)
      dsimp only [Pt.U, Pt.locs, Pt.cells, Pt.slots] at X94 l94 y94 z94 st94 hQ94
      subst l94 y94 z94
      obtain ⟨rfl, Nq94, Kq94⟩ := hQ94
      replace NF := Fr.app NF Nq94
      clear Nq94
      refine WP.tr st94 ?_
      clear st94
      replace Kq94 := Kq94.trans (rfl : h0 = h0)
      show WP p.tables e below _ T94 (mkF m 27 #[.val (.int p1), .val (.int p2), .val (.int ch), .val (.ref tt), .val (.ref c_BISHOP), .unset, .unset] [(.int (nar .char (66 : Int32)))])
      rw [show (nar .char (66 : Int32)) = (66 : Int32) from by decide]
      show WP p.tables e below _ T94 (mkF m 27 #[.val (.int p1), .val (.int p2), .val (.int ch), .val (.ref tt), .val (.ref c_BISHOP), .unset, .unset] [(.int (66 : Int32))])
      have bk95 : ∀ t, Steps p.tables e below (T94.setTop (mkF m 36 #[.val (.int p1), .val (.int p2), .val (.int ch), .val (.ref tt), .val (.ref c_BISHOP), .unset, .unset] [(.int (1 : Int32))])) t → Steps p.tables e below (T94.setTop (mkF m 27 #[.val (.int p1), .val (.int p2), .val (.int ch), .val (.ref tt), .val (.ref c_BISHOP), .unset, .unset] [(.int (66 : Int32))])) t := fun t k => by
        refine XS.iloadN X94.here hx rfl (hb hby at_27) rfl ?_
        show Steps p.tables e below (T94.setTop (mkF m 28 #[.val (.int p1), .val (.int p2), .val (.int ch), .val (.ref tt), .val (.ref c_BISHOP), .unset, .unset] [(.int ch), (.int (66 : Int32))])) t
        refine XS.icmpNo X94.here hx rfl (hb hby at_28) rfl (teq hl1.symm).2 ?_
        show Steps p.tables e below (T94.setTop (mkF m 31 #[.val (.int p1), .val (.int p2), .val (.int ch), .val (.ref tt), .val (.ref c_BISHOP), .unset, .unset] [])) t
        refine XS.iconst X94.here hx rfl (hb hby at_31) ?_
        show Steps p.tables e below (T94.setTop (mkF m 32 #[.val (.int p1), .val (.int p2), .val (.int ch), .val (.ref tt), .val (.ref c_BISHOP), .unset, .unset] [(.int (1 : Int32))])) t
        refine XS.goto X94.here hx rfl (pc0 := 32) (pc' := 36) rfl (hb hby at_32) (by decide) (by decide) ?_
        exact k
      refine WP.st bk95 ?_
      clear bk95
      exact J84 _ _  (.ref c_BISHOP) (ownWider X94 (by decide) (by decide)) Kq94 NF  
    · skip
      by_cases hl2 : ch = (71 : Int32)
      · skip
        rw [show own_for ch c_ROOK c_BISHOP c_GOLD c_SILVER c_KNIGHT c_LANCE c_PAWN c_KING = .ref c_GOLD from by simp [own_for, hl2]]
        show WP p.tables e below _ T83 (mkF m 15 #[.val (.int p1), .val (.int p2), .val (.int ch), .val (.ref tt), .unset, .unset, .unset] [(.ref c_GOLD)])
        have bk96 : ∀ t, Steps p.tables e below (T83.setTop (mkF m 24 #[.val (.int p1), .val (.int p2), .val (.int ch), .val (.ref tt), .val (.ref c_GOLD), .unset, .unset] [(.ref c_GOLD)])) t → Steps p.tables e below (T83.setTop (mkF m 15 #[.val (.int p1), .val (.int p2), .val (.int ch), .val (.ref tt), .unset, .unset, .unset] [(.ref c_GOLD)])) t := fun t k => by
          refine XS.astore X83.here hx rfl (hb hby at_15) rfl rfl (l' := #[.val (.int p1), .val (.int p2), .val (.int ch), .val (.ref tt), .val (.ref c_GOLD), .unset, .unset]) rfl ?_
          show Steps p.tables e below (T83.setTop (mkF m 17 #[.val (.int p1), .val (.int p2), .val (.int ch), .val (.ref tt), .val (.ref c_GOLD), .unset, .unset] [])) t
          refine XS.aload X83.here hx rfl (hb hby at_17) rfl rfl ?_
          show Steps p.tables e below (T83.setTop (mkF m 19 #[.val (.int p1), .val (.int p2), .val (.int ch), .val (.ref tt), .val (.ref c_GOLD), .unset, .unset] [(.ref c_GOLD)])) t
          refine XS.ifnullNo X83.here hx rfl (hb hby at_19) rfl ?_
          show Steps p.tables e below (T83.setTop (mkF m 22 #[.val (.int p1), .val (.int p2), .val (.int ch), .val (.ref tt), .val (.ref c_GOLD), .unset, .unset] [])) t
          refine XS.aload X83.here hx rfl (hb hby at_22) rfl rfl ?_
          exact k
        refine WP.st bk96 ?_
        clear bk96
        obtain ⟨cq97, kq97, q97a, q97b, q97c⟩ := isOf hZ Kq83 E_c_GOLD
        obtain ⟨_, _, ⟨T97, L97, k97, n97⟩, -, X97, ⟨Lc97, hQ97, l97, y97, z97⟩, st97⟩ := X83.virtualBack hx (y := (⟨"com/example/banmen/banmen/position/PieceType", "letter", "()C"⟩ : MethodName)) (z := (⟨"com/example/banmen/banmen/position/PieceType", "letter", "()C"⟩ : MethodName)) hown (mvT hZ (hw _ (List.mem_of_getElem? (i := 10) rfl))) (mvT hZ (hw _ (List.mem_of_getElem? (i := 11) rfl))) (notFace_of_selects (args := #[]) (mvT hZ (hw _ (List.mem_of_getElem? (i := 13) rfl)))) (mvT hZ (hw _ (List.mem_of_getElem? (i := 13) rfl))) (mvT hZ (hw _ (List.mem_of_getElem? (i := 12) rfl))) (by decide) (backOf (W := 0) (rm3 l Z a0 hw [] c_GOLD (71 : Int32) h0 n0 Z0 F_c_GOLD_letter) hZ (hw _ (List.mem_of_getElem? (i := 14) rfl)) (hw _ (List.mem_of_getElem? (i := 5) rfl)) (by decide) (by decide)) q97a q97c (g := (mkF m 24 #[.val (.int p1), .val (.int p2), .val (.int ch), .val (.ref tt), .val (.ref c_GOLD), .unset, .unset] [(.ref c_GOLD)])) rfl (by rw [hml]; rfl) (Steps.refl _) (argsL := []) (rest := []) (lenOf pd_2 rfl) rfl (by show 2 * 0 + _ ≤ _; exact Nat.le_of_eq rfl) (hb hby at_24) (fun _ _ => ⟨rfl, Kq83, (by decide : 0 + 0 ≤ _), (by decide : 0 + 0 ≤ _)⟩)
        dsimp only [Pt.U, Pt.locs, Pt.cells, Pt.slots] at X97 l97 y97 z97 st97 hQ97
        subst l97 y97 z97
        obtain ⟨rfl, Nq97, Kq97⟩ := hQ97
        replace NF := Fr.app NF Nq97
        clear Nq97
        refine WP.tr st97 ?_
        clear st97
        replace Kq97 := Kq97.trans (rfl : h0 = h0)
        show WP p.tables e below _ T97 (mkF m 27 #[.val (.int p1), .val (.int p2), .val (.int ch), .val (.ref tt), .val (.ref c_GOLD), .unset, .unset] [(.int (nar .char (71 : Int32)))])
        rw [show (nar .char (71 : Int32)) = (71 : Int32) from by decide]
        show WP p.tables e below _ T97 (mkF m 27 #[.val (.int p1), .val (.int p2), .val (.int ch), .val (.ref tt), .val (.ref c_GOLD), .unset, .unset] [(.int (71 : Int32))])
        have bk98 : ∀ t, Steps p.tables e below (T97.setTop (mkF m 36 #[.val (.int p1), .val (.int p2), .val (.int ch), .val (.ref tt), .val (.ref c_GOLD), .unset, .unset] [(.int (1 : Int32))])) t → Steps p.tables e below (T97.setTop (mkF m 27 #[.val (.int p1), .val (.int p2), .val (.int ch), .val (.ref tt), .val (.ref c_GOLD), .unset, .unset] [(.int (71 : Int32))])) t := fun t k => by
          refine XS.iloadN X97.here hx rfl (hb hby at_27) rfl ?_
          show Steps p.tables e below (T97.setTop (mkF m 28 #[.val (.int p1), .val (.int p2), .val (.int ch), .val (.ref tt), .val (.ref c_GOLD), .unset, .unset] [(.int ch), (.int (71 : Int32))])) t
          refine XS.icmpNo X97.here hx rfl (hb hby at_28) rfl (teq hl2.symm).2 ?_
          show Steps p.tables e below (T97.setTop (mkF m 31 #[.val (.int p1), .val (.int p2), .val (.int ch), .val (.ref tt), .val (.ref c_GOLD), .unset, .unset] [])) t
          refine XS.iconst X97.here hx rfl (hb hby at_31) ?_
          show Steps p.tables e below (T97.setTop (mkF m 32 #[.val (.int p1), .val (.int p2), .val (.int ch), .val (.ref tt), .val (.ref c_GOLD), .unset, .unset] [(.int (1 : Int32))])) t
          refine XS.goto X97.here hx rfl (pc0 := 32) (pc' := 36) rfl (hb hby at_32) (by decide) (by decide) ?_
          exact k
        refine WP.st bk98 ?_
        clear bk98
        exact J84 _ _  (.ref c_GOLD) (ownWider X97 (by decide) (by decide)) Kq97 NF  
      · skip
        by_cases hl3 : ch = (83 : Int32)
        · skip
          rw [show own_for ch c_ROOK c_BISHOP c_GOLD c_SILVER c_KNIGHT c_LANCE c_PAWN c_KING = .ref c_SILVER from by simp [own_for, hl3]]
          show WP p.tables e below _ T83 (mkF m 15 #[.val (.int p1), .val (.int p2), .val (.int ch), .val (.ref tt), .unset, .unset, .unset] [(.ref c_SILVER)])
          have bk99 : ∀ t, Steps p.tables e below (T83.setTop (mkF m 24 #[.val (.int p1), .val (.int p2), .val (.int ch), .val (.ref tt), .val (.ref c_SILVER), .unset, .unset] [(.ref c_SILVER)])) t → Steps p.tables e below (T83.setTop (mkF m 15 #[.val (.int p1), .val (.int p2), .val (.int ch), .val (.ref tt), .unset, .unset, .unset] [(.ref c_SILVER)])) t := fun t k => by
            refine XS.astore X83.here hx rfl (hb hby at_15) rfl rfl (l' := #[.val (.int p1), .val (.int p2), .val (.int ch), .val (.ref tt), .val (.ref c_SILVER), .unset, .unset]) rfl ?_
            show Steps p.tables e below (T83.setTop (mkF m 17 #[.val (.int p1), .val (.int p2), .val (.int ch), .val (.ref tt), .val (.ref c_SILVER), .unset, .unset] [])) t
            refine XS.aload X83.here hx rfl (hb hby at_17) rfl rfl ?_
            show Steps p.tables e below (T83.setTop (mkF m 19 #[.val (.int p1), .val (.int p2), .val (.int ch), .val (.ref tt), .val (.ref c_SILVER), .unset, .unset] [(.ref c_SILVER)])) t
            refine XS.ifnullNo X83.here hx rfl (hb hby at_19) rfl ?_
            show Steps p.tables e below (T83.setTop (mkF m 22 #[.val (.int p1), .val (.int p2), .val (.int ch), .val (.ref tt), .val (.ref c_SILVER), .unset, .unset] [])) t
            refine XS.aload X83.here hx rfl (hb hby at_22) rfl rfl ?_
            exact k
          refine WP.st bk99 ?_
          clear bk99
          obtain ⟨cq100, kq100, q100a, q100b, q100c⟩ := isOf hZ Kq83 E_c_SILVER
          obtain ⟨_, _, ⟨T100, L100, k100, n100⟩, -, X100, ⟨Lc100, hQ100, l100, y100, z100⟩, st100⟩ := X83.virtualBack hx (y := (⟨"com/example/banmen/banmen/position/PieceType", "letter", "()C"⟩ : MethodName)) (z := (⟨"com/example/banmen/banmen/position/PieceType", "letter", "()C"⟩ : MethodName)) hown (mvT hZ (hw _ (List.mem_of_getElem? (i := 10) rfl))) (mvT hZ (hw _ (List.mem_of_getElem? (i := 11) rfl))) (notFace_of_selects (args := #[]) (mvT hZ (hw _ (List.mem_of_getElem? (i := 13) rfl)))) (mvT hZ (hw _ (List.mem_of_getElem? (i := 13) rfl))) (mvT hZ (hw _ (List.mem_of_getElem? (i := 12) rfl))) (by decide) (backOf (W := 0) (rm3 l Z a0 hw [] c_SILVER (83 : Int32) h0 n0 Z0 F_c_SILVER_letter) hZ (hw _ (List.mem_of_getElem? (i := 14) rfl)) (hw _ (List.mem_of_getElem? (i := 5) rfl)) (by decide) (by decide)) q100a q100c (g := (mkF m 24 #[.val (.int p1), .val (.int p2), .val (.int ch), .val (.ref tt), .val (.ref c_SILVER), .unset, .unset] [(.ref c_SILVER)])) rfl (by rw [hml]; rfl) (Steps.refl _) (argsL := []) (rest := []) (lenOf pd_2 rfl) rfl (by show 2 * 0 + _ ≤ _; exact Nat.le_of_eq rfl) (hb hby at_24) (fun _ _ => ⟨rfl, Kq83, (by decide : 0 + 0 ≤ _), (by decide : 0 + 0 ≤ _)⟩)
          dsimp only [Pt.U, Pt.locs, Pt.cells, Pt.slots] at X100 l100 y100 z100 st100 hQ100
          subst l100 y100 z100
          obtain ⟨rfl, Nq100, Kq100⟩ := hQ100
          replace NF := Fr.app NF Nq100
          clear Nq100
          refine WP.tr st100 ?_
          clear st100
          replace Kq100 := Kq100.trans (rfl : h0 = h0)
          show WP p.tables e below _ T100 (mkF m 27 #[.val (.int p1), .val (.int p2), .val (.int ch), .val (.ref tt), .val (.ref c_SILVER), .unset, .unset] [(.int (nar .char (83 : Int32)))])
          rw [show (nar .char (83 : Int32)) = (83 : Int32) from by decide]
          show WP p.tables e below _ T100 (mkF m 27 #[.val (.int p1), .val (.int p2), .val (.int ch), .val (.ref tt), .val (.ref c_SILVER), .unset, .unset] [(.int (83 : Int32))])
          have bk101 : ∀ t, Steps p.tables e below (T100.setTop (mkF m 36 #[.val (.int p1), .val (.int p2), .val (.int ch), .val (.ref tt), .val (.ref c_SILVER), .unset, .unset] [(.int (1 : Int32))])) t → Steps p.tables e below (T100.setTop (mkF m 27 #[.val (.int p1), .val (.int p2), .val (.int ch), .val (.ref tt), .val (.ref c_SILVER), .unset, .unset] [(.int (83 : Int32))])) t := fun t k => by
            refine XS.iloadN X100.here hx rfl (hb hby at_27) rfl ?_
            show Steps p.tables e below (T100.setTop (mkF m 28 #[.val (.int p1), .val (.int p2), .val (.int ch), .val (.ref tt), .val (.ref c_SILVER), .unset, .unset] [(.int ch), (.int (83 : Int32))])) t
            refine XS.icmpNo X100.here hx rfl (hb hby at_28) rfl (teq hl3.symm).2 ?_
            show Steps p.tables e below (T100.setTop (mkF m 31 #[.val (.int p1), .val (.int p2), .val (.int ch), .val (.ref tt), .val (.ref c_SILVER), .unset, .unset] [])) t
            refine XS.iconst X100.here hx rfl (hb hby at_31) ?_
            show Steps p.tables e below (T100.setTop (mkF m 32 #[.val (.int p1), .val (.int p2), .val (.int ch), .val (.ref tt), .val (.ref c_SILVER), .unset, .unset] [(.int (1 : Int32))])) t
            refine XS.goto X100.here hx rfl (pc0 := 32) (pc' := 36) rfl (hb hby at_32) (by decide) (by decide) ?_
            exact k
          refine WP.st bk101 ?_
          clear bk101
          exact J84 _ _  (.ref c_SILVER) (ownWider X100 (by decide) (by decide)) Kq100 NF  
        · skip
          by_cases hl4 : ch = (78 : Int32)
          · skip
            rw [show own_for ch c_ROOK c_BISHOP c_GOLD c_SILVER c_KNIGHT c_LANCE c_PAWN c_KING = .ref c_KNIGHT from by simp [own_for, hl4]]
            show WP p.tables e below _ T83 (mkF m 15 #[.val (.int p1), .val (.int p2), .val (.int ch), .val (.ref tt), .unset, .unset, .unset] [(.ref c_KNIGHT)])
            have bk102 : ∀ t, Steps p.tables e below (T83.setTop (mkF m 24 #[.val (.int p1), .val (.int p2), .val (.int ch), .val (.ref tt), .val (.ref c_KNIGHT), .unset, .unset] [(.ref c_KNIGHT)])) t → Steps p.tables e below (T83.setTop (mkF m 15 #[.val (.int p1), .val (.int p2), .val (.int ch), .val (.ref tt), .unset, .unset, .unset] [(.ref c_KNIGHT)])) t := fun t k => by
              refine XS.astore X83.here hx rfl (hb hby at_15) rfl rfl (l' := #[.val (.int p1), .val (.int p2), .val (.int ch), .val (.ref tt), .val (.ref c_KNIGHT), .unset, .unset]) rfl ?_
              show Steps p.tables e below (T83.setTop (mkF m 17 #[.val (.int p1), .val (.int p2), .val (.int ch), .val (.ref tt), .val (.ref c_KNIGHT), .unset, .unset] [])) t
              refine XS.aload X83.here hx rfl (hb hby at_17) rfl rfl ?_
              show Steps p.tables e below (T83.setTop (mkF m 19 #[.val (.int p1), .val (.int p2), .val (.int ch), .val (.ref tt), .val (.ref c_KNIGHT), .unset, .unset] [(.ref c_KNIGHT)])) t
              refine XS.ifnullNo X83.here hx rfl (hb hby at_19) rfl ?_
              show Steps p.tables e below (T83.setTop (mkF m 22 #[.val (.int p1), .val (.int p2), .val (.int ch), .val (.ref tt), .val (.ref c_KNIGHT), .unset, .unset] [])) t
              refine XS.aload X83.here hx rfl (hb hby at_22) rfl rfl ?_
              exact k
            refine WP.st bk102 ?_
            clear bk102
            obtain ⟨cq103, kq103, q103a, q103b, q103c⟩ := isOf hZ Kq83 E_c_KNIGHT
            obtain ⟨_, _, ⟨T103, L103, k103, n103⟩, -, X103, ⟨Lc103, hQ103, l103, y103, z103⟩, st103⟩ := X83.virtualBack hx (y := (⟨"com/example/banmen/banmen/position/PieceType", "letter", "()C"⟩ : MethodName)) (z := (⟨"com/example/banmen/banmen/position/PieceType", "letter", "()C"⟩ : MethodName)) hown (mvT hZ (hw _ (List.mem_of_getElem? (i := 10) rfl))) (mvT hZ (hw _ (List.mem_of_getElem? (i := 11) rfl))) (notFace_of_selects (args := #[]) (mvT hZ (hw _ (List.mem_of_getElem? (i := 13) rfl)))) (mvT hZ (hw _ (List.mem_of_getElem? (i := 13) rfl))) (mvT hZ (hw _ (List.mem_of_getElem? (i := 12) rfl))) (by decide) (backOf (W := 0) (rm3 l Z a0 hw [] c_KNIGHT (78 : Int32) h0 n0 Z0 F_c_KNIGHT_letter) hZ (hw _ (List.mem_of_getElem? (i := 14) rfl)) (hw _ (List.mem_of_getElem? (i := 5) rfl)) (by decide) (by decide)) q103a q103c (g := (mkF m 24 #[.val (.int p1), .val (.int p2), .val (.int ch), .val (.ref tt), .val (.ref c_KNIGHT), .unset, .unset] [(.ref c_KNIGHT)])) rfl (by rw [hml]; rfl) (Steps.refl _) (argsL := []) (rest := []) (lenOf pd_2 rfl) rfl (by show 2 * 0 + _ ≤ _; exact Nat.le_of_eq rfl) (hb hby at_24) (fun _ _ => ⟨rfl, Kq83, (by decide : 0 + 0 ≤ _), (by decide : 0 + 0 ≤ _)⟩)
            dsimp only [Pt.U, Pt.locs, Pt.cells, Pt.slots] at X103 l103 y103 z103 st103 hQ103
            subst l103 y103 z103
            obtain ⟨rfl, Nq103, Kq103⟩ := hQ103
            replace NF := Fr.app NF Nq103
            clear Nq103
            refine WP.tr st103 ?_
            clear st103
            replace Kq103 := Kq103.trans (rfl : h0 = h0)
            show WP p.tables e below _ T103 (mkF m 27 #[.val (.int p1), .val (.int p2), .val (.int ch), .val (.ref tt), .val (.ref c_KNIGHT), .unset, .unset] [(.int (nar .char (78 : Int32)))])
            rw [show (nar .char (78 : Int32)) = (78 : Int32) from by decide]
            show WP p.tables e below _ T103 (mkF m 27 #[.val (.int p1), .val (.int p2), .val (.int ch), .val (.ref tt), .val (.ref c_KNIGHT), .unset, .unset] [(.int (78 : Int32))])
            have bk104 : ∀ t, Steps p.tables e below (T103.setTop (mkF m 36 #[.val (.int p1), .val (.int p2), .val (.int ch), .val (.ref tt), .val (.ref c_KNIGHT), .unset, .unset] [(.int (1 : Int32))])) t → Steps p.tables e below (T103.setTop (mkF m 27 #[.val (.int p1), .val (.int p2), .val (.int ch), .val (.ref tt), .val (.ref c_KNIGHT), .unset, .unset] [(.int (78 : Int32))])) t := fun t k => by
              refine XS.iloadN X103.here hx rfl (hb hby at_27) rfl ?_
              show Steps p.tables e below (T103.setTop (mkF m 28 #[.val (.int p1), .val (.int p2), .val (.int ch), .val (.ref tt), .val (.ref c_KNIGHT), .unset, .unset] [(.int ch), (.int (78 : Int32))])) t
              refine XS.icmpNo X103.here hx rfl (hb hby at_28) rfl (teq hl4.symm).2 ?_
              show Steps p.tables e below (T103.setTop (mkF m 31 #[.val (.int p1), .val (.int p2), .val (.int ch), .val (.ref tt), .val (.ref c_KNIGHT), .unset, .unset] [])) t
              refine XS.iconst X103.here hx rfl (hb hby at_31) ?_
              show Steps p.tables e below (T103.setTop (mkF m 32 #[.val (.int p1), .val (.int p2), .val (.int ch), .val (.ref tt), .val (.ref c_KNIGHT), .unset, .unset] [(.int (1 : Int32))])) t
              refine XS.goto X103.here hx rfl (pc0 := 32) (pc' := 36) rfl (hb hby at_32) (by decide) (by decide) ?_
              exact k
            refine WP.st bk104 ?_
            clear bk104
            exact J84 _ _  (.ref c_KNIGHT) (ownWider X103 (by decide) (by decide)) Kq103 NF  
          · skip
            by_cases hl5 : ch = (76 : Int32)
            · skip
              rw [show own_for ch c_ROOK c_BISHOP c_GOLD c_SILVER c_KNIGHT c_LANCE c_PAWN c_KING = .ref c_LANCE from by simp [own_for, hl5]]
              show WP p.tables e below _ T83 (mkF m 15 #[.val (.int p1), .val (.int p2), .val (.int ch), .val (.ref tt), .unset, .unset, .unset] [(.ref c_LANCE)])
              have bk105 : ∀ t, Steps p.tables e below (T83.setTop (mkF m 24 #[.val (.int p1), .val (.int p2), .val (.int ch), .val (.ref tt), .val (.ref c_LANCE), .unset, .unset] [(.ref c_LANCE)])) t → Steps p.tables e below (T83.setTop (mkF m 15 #[.val (.int p1), .val (.int p2), .val (.int ch), .val (.ref tt), .unset, .unset, .unset] [(.ref c_LANCE)])) t := fun t k => by
                refine XS.astore X83.here hx rfl (hb hby at_15) rfl rfl (l' := #[.val (.int p1), .val (.int p2), .val (.int ch), .val (.ref tt), .val (.ref c_LANCE), .unset, .unset]) rfl ?_
                show Steps p.tables e below (T83.setTop (mkF m 17 #[.val (.int p1), .val (.int p2), .val (.int ch), .val (.ref tt), .val (.ref c_LANCE), .unset, .unset] [])) t
                refine XS.aload X83.here hx rfl (hb hby at_17) rfl rfl ?_
                show Steps p.tables e below (T83.setTop (mkF m 19 #[.val (.int p1), .val (.int p2), .val (.int ch), .val (.ref tt), .val (.ref c_LANCE), .unset, .unset] [(.ref c_LANCE)])) t
                refine XS.ifnullNo X83.here hx rfl (hb hby at_19) rfl ?_
                show Steps p.tables e below (T83.setTop (mkF m 22 #[.val (.int p1), .val (.int p2), .val (.int ch), .val (.ref tt), .val (.ref c_LANCE), .unset, .unset] [])) t
                refine XS.aload X83.here hx rfl (hb hby at_22) rfl rfl ?_
                exact k
              refine WP.st bk105 ?_
              clear bk105
              obtain ⟨cq106, kq106, q106a, q106b, q106c⟩ := isOf hZ Kq83 E_c_LANCE
              obtain ⟨_, _, ⟨T106, L106, k106, n106⟩, -, X106, ⟨Lc106, hQ106, l106, y106, z106⟩, st106⟩ := X83.virtualBack hx (y := (⟨"com/example/banmen/banmen/position/PieceType", "letter", "()C"⟩ : MethodName)) (z := (⟨"com/example/banmen/banmen/position/PieceType", "letter", "()C"⟩ : MethodName)) hown (mvT hZ (hw _ (List.mem_of_getElem? (i := 10) rfl))) (mvT hZ (hw _ (List.mem_of_getElem? (i := 11) rfl))) (notFace_of_selects (args := #[]) (mvT hZ (hw _ (List.mem_of_getElem? (i := 13) rfl)))) (mvT hZ (hw _ (List.mem_of_getElem? (i := 13) rfl))) (mvT hZ (hw _ (List.mem_of_getElem? (i := 12) rfl))) (by decide) (backOf (W := 0) (rm3 l Z a0 hw [] c_LANCE (76 : Int32) h0 n0 Z0 F_c_LANCE_letter) hZ (hw _ (List.mem_of_getElem? (i := 14) rfl)) (hw _ (List.mem_of_getElem? (i := 5) rfl)) (by decide) (by decide)) q106a q106c (g := (mkF m 24 #[.val (.int p1), .val (.int p2), .val (.int ch), .val (.ref tt), .val (.ref c_LANCE), .unset, .unset] [(.ref c_LANCE)])) rfl (by rw [hml]; rfl) (Steps.refl _) (argsL := []) (rest := []) (lenOf pd_2 rfl) rfl (by show 2 * 0 + _ ≤ _; exact Nat.le_of_eq rfl) (hb hby at_24) (fun _ _ => ⟨rfl, Kq83, (by decide : 0 + 0 ≤ _), (by decide : 0 + 0 ≤ _)⟩)
              dsimp only [Pt.U, Pt.locs, Pt.cells, Pt.slots] at X106 l106 y106 z106 st106 hQ106
              subst l106 y106 z106
              obtain ⟨rfl, Nq106, Kq106⟩ := hQ106
              replace NF := Fr.app NF Nq106
              clear Nq106
              refine WP.tr st106 ?_
              clear st106
              replace Kq106 := Kq106.trans (rfl : h0 = h0)
              show WP p.tables e below _ T106 (mkF m 27 #[.val (.int p1), .val (.int p2), .val (.int ch), .val (.ref tt), .val (.ref c_LANCE), .unset, .unset] [(.int (nar .char (76 : Int32)))])
              rw [show (nar .char (76 : Int32)) = (76 : Int32) from by decide]
              show WP p.tables e below _ T106 (mkF m 27 #[.val (.int p1), .val (.int p2), .val (.int ch), .val (.ref tt), .val (.ref c_LANCE), .unset, .unset] [(.int (76 : Int32))])
              have bk107 : ∀ t, Steps p.tables e below (T106.setTop (mkF m 36 #[.val (.int p1), .val (.int p2), .val (.int ch), .val (.ref tt), .val (.ref c_LANCE), .unset, .unset] [(.int (1 : Int32))])) t → Steps p.tables e below (T106.setTop (mkF m 27 #[.val (.int p1), .val (.int p2), .val (.int ch), .val (.ref tt), .val (.ref c_LANCE), .unset, .unset] [(.int (76 : Int32))])) t := fun t k => by
                refine XS.iloadN X106.here hx rfl (hb hby at_27) rfl ?_
                show Steps p.tables e below (T106.setTop (mkF m 28 #[.val (.int p1), .val (.int p2), .val (.int ch), .val (.ref tt), .val (.ref c_LANCE), .unset, .unset] [(.int ch), (.int (76 : Int32))])) t
                refine XS.icmpNo X106.here hx rfl (hb hby at_28) rfl (teq hl5.symm).2 ?_
                show Steps p.tables e below (T106.setTop (mkF m 31 #[.val (.int p1), .val (.int p2), .val (.int ch), .val (.ref tt), .val (.ref c_LANCE), .unset, .unset] [])) t
                refine XS.iconst X106.here hx rfl (hb hby at_31) ?_
                show Steps p.tables e below (T106.setTop (mkF m 32 #[.val (.int p1), .val (.int p2), .val (.int ch), .val (.ref tt), .val (.ref c_LANCE), .unset, .unset] [(.int (1 : Int32))])) t
                refine XS.goto X106.here hx rfl (pc0 := 32) (pc' := 36) rfl (hb hby at_32) (by decide) (by decide) ?_
                exact k
              refine WP.st bk107 ?_
              clear bk107
              exact J84 _ _  (.ref c_LANCE) (ownWider X106 (by decide) (by decide)) Kq106 NF  
            · skip
              by_cases hl6 : ch = (80 : Int32)
              · skip
                rw [show own_for ch c_ROOK c_BISHOP c_GOLD c_SILVER c_KNIGHT c_LANCE c_PAWN c_KING = .ref c_PAWN from by simp [own_for, hl6]]
                show WP p.tables e below _ T83 (mkF m 15 #[.val (.int p1), .val (.int p2), .val (.int ch), .val (.ref tt), .unset, .unset, .unset] [(.ref c_PAWN)])
                have bk108 : ∀ t, Steps p.tables e below (T83.setTop (mkF m 24 #[.val (.int p1), .val (.int p2), .val (.int ch), .val (.ref tt), .val (.ref c_PAWN), .unset, .unset] [(.ref c_PAWN)])) t → Steps p.tables e below (T83.setTop (mkF m 15 #[.val (.int p1), .val (.int p2), .val (.int ch), .val (.ref tt), .unset, .unset, .unset] [(.ref c_PAWN)])) t := fun t k => by
                  refine XS.astore X83.here hx rfl (hb hby at_15) rfl rfl (l' := #[.val (.int p1), .val (.int p2), .val (.int ch), .val (.ref tt), .val (.ref c_PAWN), .unset, .unset]) rfl ?_
                  show Steps p.tables e below (T83.setTop (mkF m 17 #[.val (.int p1), .val (.int p2), .val (.int ch), .val (.ref tt), .val (.ref c_PAWN), .unset, .unset] [])) t
                  refine XS.aload X83.here hx rfl (hb hby at_17) rfl rfl ?_
                  show Steps p.tables e below (T83.setTop (mkF m 19 #[.val (.int p1), .val (.int p2), .val (.int ch), .val (.ref tt), .val (.ref c_PAWN), .unset, .unset] [(.ref c_PAWN)])) t
                  refine XS.ifnullNo X83.here hx rfl (hb hby at_19) rfl ?_
                  show Steps p.tables e below (T83.setTop (mkF m 22 #[.val (.int p1), .val (.int p2), .val (.int ch), .val (.ref tt), .val (.ref c_PAWN), .unset, .unset] [])) t
                  refine XS.aload X83.here hx rfl (hb hby at_22) rfl rfl ?_
                  exact k
                refine WP.st bk108 ?_
                clear bk108
                obtain ⟨cq109, kq109, q109a, q109b, q109c⟩ := isOf hZ Kq83 E_c_PAWN
                obtain ⟨_, _, ⟨T109, L109, k109, n109⟩, -, X109, ⟨Lc109, hQ109, l109, y109, z109⟩, st109⟩ := X83.virtualBack hx (y := (⟨"com/example/banmen/banmen/position/PieceType", "letter", "()C"⟩ : MethodName)) (z := (⟨"com/example/banmen/banmen/position/PieceType", "letter", "()C"⟩ : MethodName)) hown (mvT hZ (hw _ (List.mem_of_getElem? (i := 10) rfl))) (mvT hZ (hw _ (List.mem_of_getElem? (i := 11) rfl))) (notFace_of_selects (args := #[]) (mvT hZ (hw _ (List.mem_of_getElem? (i := 13) rfl)))) (mvT hZ (hw _ (List.mem_of_getElem? (i := 13) rfl))) (mvT hZ (hw _ (List.mem_of_getElem? (i := 12) rfl))) (by decide) (backOf (W := 0) (rm3 l Z a0 hw [] c_PAWN (80 : Int32) h0 n0 Z0 F_c_PAWN_letter) hZ (hw _ (List.mem_of_getElem? (i := 14) rfl)) (hw _ (List.mem_of_getElem? (i := 5) rfl)) (by decide) (by decide)) q109a q109c (g := (mkF m 24 #[.val (.int p1), .val (.int p2), .val (.int ch), .val (.ref tt), .val (.ref c_PAWN), .unset, .unset] [(.ref c_PAWN)])) rfl (by rw [hml]; rfl) (Steps.refl _) (argsL := []) (rest := []) (lenOf pd_2 rfl) rfl (by show 2 * 0 + _ ≤ _; exact Nat.le_of_eq rfl) (hb hby at_24) (fun _ _ => ⟨rfl, Kq83, (by decide : 0 + 0 ≤ _), (by decide : 0 + 0 ≤ _)⟩)
                dsimp only [Pt.U, Pt.locs, Pt.cells, Pt.slots] at X109 l109 y109 z109 st109 hQ109
                subst l109 y109 z109
                obtain ⟨rfl, Nq109, Kq109⟩ := hQ109
                replace NF := Fr.app NF Nq109
                clear Nq109
                refine WP.tr st109 ?_
                clear st109
                replace Kq109 := Kq109.trans (rfl : h0 = h0)
                show WP p.tables e below _ T109 (mkF m 27 #[.val (.int p1), .val (.int p2), .val (.int ch), .val (.ref tt), .val (.ref c_PAWN), .unset, .unset] [(.int (nar .char (80 : Int32)))])
                rw [show (nar .char (80 : Int32)) = (80 : Int32) from by decide]
                show WP p.tables e below _ T109 (mkF m 27 #[.val (.int p1), .val (.int p2), .val (.int ch), .val (.ref tt), .val (.ref c_PAWN), .unset, .unset] [(.int (80 : Int32))])
                have bk110 : ∀ t, Steps p.tables e below (T109.setTop (mkF m 36 #[.val (.int p1), .val (.int p2), .val (.int ch), .val (.ref tt), .val (.ref c_PAWN), .unset, .unset] [(.int (1 : Int32))])) t → Steps p.tables e below (T109.setTop (mkF m 27 #[.val (.int p1), .val (.int p2), .val (.int ch), .val (.ref tt), .val (.ref c_PAWN), .unset, .unset] [(.int (80 : Int32))])) t := fun t k => by
                  refine XS.iloadN X109.here hx rfl (hb hby at_27) rfl ?_
                  show Steps p.tables e below (T109.setTop (mkF m 28 #[.val (.int p1), .val (.int p2), .val (.int ch), .val (.ref tt), .val (.ref c_PAWN), .unset, .unset] [(.int ch), (.int (80 : Int32))])) t
                  refine XS.icmpNo X109.here hx rfl (hb hby at_28) rfl (teq hl6.symm).2 ?_
                  show Steps p.tables e below (T109.setTop (mkF m 31 #[.val (.int p1), .val (.int p2), .val (.int ch), .val (.ref tt), .val (.ref c_PAWN), .unset, .unset] [])) t
                  refine XS.iconst X109.here hx rfl (hb hby at_31) ?_
                  show Steps p.tables e below (T109.setTop (mkF m 32 #[.val (.int p1), .val (.int p2), .val (.int ch), .val (.ref tt), .val (.ref c_PAWN), .unset, .unset] [(.int (1 : Int32))])) t
                  refine XS.goto X109.here hx rfl (pc0 := 32) (pc' := 36) rfl (hb hby at_32) (by decide) (by decide) ?_
                  exact k
                refine WP.st bk110 ?_
                clear bk110
                exact J84 _ _  (.ref c_PAWN) (ownWider X109 (by decide) (by decide)) Kq109 NF  
              · skip
                by_cases hl7 : ch = (75 : Int32)
                · skip
                  rw [show own_for ch c_ROOK c_BISHOP c_GOLD c_SILVER c_KNIGHT c_LANCE c_PAWN c_KING = .ref c_KING from by simp [own_for, hl7]]
                  show WP p.tables e below _ T83 (mkF m 15 #[.val (.int p1), .val (.int p2), .val (.int ch), .val (.ref tt), .unset, .unset, .unset] [(.ref c_KING)])
                  have bk111 : ∀ t, Steps p.tables e below (T83.setTop (mkF m 24 #[.val (.int p1), .val (.int p2), .val (.int ch), .val (.ref tt), .val (.ref c_KING), .unset, .unset] [(.ref c_KING)])) t → Steps p.tables e below (T83.setTop (mkF m 15 #[.val (.int p1), .val (.int p2), .val (.int ch), .val (.ref tt), .unset, .unset, .unset] [(.ref c_KING)])) t := fun t k => by
                    refine XS.astore X83.here hx rfl (hb hby at_15) rfl rfl (l' := #[.val (.int p1), .val (.int p2), .val (.int ch), .val (.ref tt), .val (.ref c_KING), .unset, .unset]) rfl ?_
                    show Steps p.tables e below (T83.setTop (mkF m 17 #[.val (.int p1), .val (.int p2), .val (.int ch), .val (.ref tt), .val (.ref c_KING), .unset, .unset] [])) t
                    refine XS.aload X83.here hx rfl (hb hby at_17) rfl rfl ?_
                    show Steps p.tables e below (T83.setTop (mkF m 19 #[.val (.int p1), .val (.int p2), .val (.int ch), .val (.ref tt), .val (.ref c_KING), .unset, .unset] [(.ref c_KING)])) t
                    refine XS.ifnullNo X83.here hx rfl (hb hby at_19) rfl ?_
                    show Steps p.tables e below (T83.setTop (mkF m 22 #[.val (.int p1), .val (.int p2), .val (.int ch), .val (.ref tt), .val (.ref c_KING), .unset, .unset] [])) t
                    refine XS.aload X83.here hx rfl (hb hby at_22) rfl rfl ?_
                    exact k
                  refine WP.st bk111 ?_
                  clear bk111
                  obtain ⟨cq112, kq112, q112a, q112b, q112c⟩ := isOf hZ Kq83 E_c_KING
                  obtain ⟨_, _, ⟨T112, L112, k112, n112⟩, -, X112, ⟨Lc112, hQ112, l112, y112, z112⟩, st112⟩ := X83.virtualBack hx (y := (⟨"com/example/banmen/banmen/position/PieceType", "letter", "()C"⟩ : MethodName)) (z := (⟨"com/example/banmen/banmen/position/PieceType", "letter", "()C"⟩ : MethodName)) hown (mvT hZ (hw _ (List.mem_of_getElem? (i := 10) rfl))) (mvT hZ (hw _ (List.mem_of_getElem? (i := 11) rfl))) (notFace_of_selects (args := #[]) (mvT hZ (hw _ (List.mem_of_getElem? (i := 13) rfl)))) (mvT hZ (hw _ (List.mem_of_getElem? (i := 13) rfl))) (mvT hZ (hw _ (List.mem_of_getElem? (i := 12) rfl))) (by decide) (backOf (W := 0) (rm3 l Z a0 hw [] c_KING (75 : Int32) h0 n0 Z0 F_c_KING_letter) hZ (hw _ (List.mem_of_getElem? (i := 14) rfl)) (hw _ (List.mem_of_getElem? (i := 5) rfl)) (by decide) (by decide)) q112a q112c (g := (mkF m 24 #[.val (.int p1), .val (.int p2), .val (.int ch), .val (.ref tt), .val (.ref c_KING), .unset, .unset] [(.ref c_KING)])) rfl (by rw [hml]; rfl) (Steps.refl _) (argsL := []) (rest := []) (lenOf pd_2 rfl) rfl (by show 2 * 0 + _ ≤ _; exact Nat.le_of_eq rfl) (hb hby at_24) (fun _ _ => ⟨rfl, Kq83, (by decide : 0 + 0 ≤ _), (by decide : 0 + 0 ≤ _)⟩)
                  dsimp only [Pt.U, Pt.locs, Pt.cells, Pt.slots] at X112 l112 y112 z112 st112 hQ112
                  subst l112 y112 z112
                  obtain ⟨rfl, Nq112, Kq112⟩ := hQ112
                  replace NF := Fr.app NF Nq112
                  clear Nq112
                  refine WP.tr st112 ?_
                  clear st112
                  replace Kq112 := Kq112.trans (rfl : h0 = h0)
                  show WP p.tables e below _ T112 (mkF m 27 #[.val (.int p1), .val (.int p2), .val (.int ch), .val (.ref tt), .val (.ref c_KING), .unset, .unset] [(.int (nar .char (75 : Int32)))])
                  rw [show (nar .char (75 : Int32)) = (75 : Int32) from by decide]
                  show WP p.tables e below _ T112 (mkF m 27 #[.val (.int p1), .val (.int p2), .val (.int ch), .val (.ref tt), .val (.ref c_KING), .unset, .unset] [(.int (75 : Int32))])
                  have bk113 : ∀ t, Steps p.tables e below (T112.setTop (mkF m 36 #[.val (.int p1), .val (.int p2), .val (.int ch), .val (.ref tt), .val (.ref c_KING), .unset, .unset] [(.int (1 : Int32))])) t → Steps p.tables e below (T112.setTop (mkF m 27 #[.val (.int p1), .val (.int p2), .val (.int ch), .val (.ref tt), .val (.ref c_KING), .unset, .unset] [(.int (75 : Int32))])) t := fun t k => by
                    refine XS.iloadN X112.here hx rfl (hb hby at_27) rfl ?_
                    show Steps p.tables e below (T112.setTop (mkF m 28 #[.val (.int p1), .val (.int p2), .val (.int ch), .val (.ref tt), .val (.ref c_KING), .unset, .unset] [(.int ch), (.int (75 : Int32))])) t
                    refine XS.icmpNo X112.here hx rfl (hb hby at_28) rfl (teq hl7.symm).2 ?_
                    show Steps p.tables e below (T112.setTop (mkF m 31 #[.val (.int p1), .val (.int p2), .val (.int ch), .val (.ref tt), .val (.ref c_KING), .unset, .unset] [])) t
                    refine XS.iconst X112.here hx rfl (hb hby at_31) ?_
                    show Steps p.tables e below (T112.setTop (mkF m 32 #[.val (.int p1), .val (.int p2), .val (.int ch), .val (.ref tt), .val (.ref c_KING), .unset, .unset] [(.int (1 : Int32))])) t
                    refine XS.goto X112.here hx rfl (pc0 := 32) (pc' := 36) rfl (hb hby at_32) (by decide) (by decide) ?_
                    exact k
                  refine WP.st bk113 ?_
                  clear bk113
                  exact J84 _ _  (.ref c_KING) (ownWider X112 (by decide) (by decide)) Kq112 NF  
                · skip
                  rw [show own_for ch c_ROOK c_BISHOP c_GOLD c_SILVER c_KNIGHT c_LANCE c_PAWN c_KING = .null from by simp [own_for, hl0, hl1, hl2, hl3, hl4, hl5, hl6, hl7]]
                  show WP p.tables e below _ T83 (mkF m 15 #[.val (.int p1), .val (.int p2), .val (.int ch), .val (.ref tt), .unset, .unset, .unset] [.null])
                  have bk114 : ∀ t, Steps p.tables e below (T83.setTop (mkF m 36 #[.val (.int p1), .val (.int p2), .val (.int ch), .val (.ref tt), .val .null, .unset, .unset] [(.int (1 : Int32))])) t → Steps p.tables e below (T83.setTop (mkF m 15 #[.val (.int p1), .val (.int p2), .val (.int ch), .val (.ref tt), .unset, .unset, .unset] [.null])) t := fun t k => by
                    refine XS.astore X83.here hx rfl (hb hby at_15) rfl rfl (l' := #[.val (.int p1), .val (.int p2), .val (.int ch), .val (.ref tt), .val .null, .unset, .unset]) rfl ?_
                    show Steps p.tables e below (T83.setTop (mkF m 17 #[.val (.int p1), .val (.int p2), .val (.int ch), .val (.ref tt), .val .null, .unset, .unset] [])) t
                    refine XS.aload X83.here hx rfl (hb hby at_17) rfl rfl ?_
                    show Steps p.tables e below (T83.setTop (mkF m 19 #[.val (.int p1), .val (.int p2), .val (.int ch), .val (.ref tt), .val .null, .unset, .unset] [.null])) t
                    refine XS.ifnullYes X83.here hx rfl (pc0 := 19) (pc' := 31) rfl (hb hby at_19) rfl (by decide) (by decide) ?_
                    show Steps p.tables e below (T83.setTop (mkF m 31 #[.val (.int p1), .val (.int p2), .val (.int ch), .val (.ref tt), .val .null, .unset, .unset] [])) t
                    refine XS.iconst X83.here hx rfl (hb hby at_31) ?_
                    show Steps p.tables e below (T83.setTop (mkF m 32 #[.val (.int p1), .val (.int p2), .val (.int ch), .val (.ref tt), .val .null, .unset, .unset] [(.int (1 : Int32))])) t
                    refine XS.goto X83.here hx rfl (pc0 := 32) (pc' := 36) rfl (hb hby at_32) (by decide) (by decide) ?_
                    exact k
                  refine WP.st bk114 ?_
                  clear bk114
                  exact J84 _ _  .null (ownWider X83 (by decide) (by decide)) Kq83 NF  
theorem own_const {s : State} {args : Array Value} {C n d C' f df : String} {k : Int32} (h1 : (Cond.exactly (Term.static C n d) C').value args s none s [] = some true) (h2 : (Cond.eq (Term.field (Term.static C n d) C' f df) (Term.int k)).value args s none s [] = some true)
    (hi : (Cond.initialized C).before args s = true) (hl : (Cond.laysStatic C n d).before args s = true) : ∃ a, Sta s s.heap C n d (.ref a) ∧ Exa s s.heap a C' ∧ Fld s s.heap a C' f df (.int k) := by
  obtain ⟨a, c, cell, kk, ev, -⟩ := Cond.exactly_spec (show (Cond.exactly (Term.static C n d) C').holds args s none s [] = true from Cond.before_iff.mpr h1)
  obtain ⟨y, e1, e2⟩ := Cond.eq_one (show (Cond.eq (Term.field (Term.static C n d) C' f df) (Term.int k)).holds args s none s [] = true from Cond.before_iff.mpr h2)
  cases e2
  exact ⟨a, Sta.start ev (Or.inr ⟨hi, hl⟩), Exa.start ev h1, Fld.start ((fld_at ev).symm.trans e1)⟩
set_option maxRecDepth 65536 in
set_option maxHeartbeats 40000000 in
theorem comes_1 {Post : Tables → Env → Array Value → State → Outcome → State → Prop} (hpost : ∀ tb e args s v u, (limb_1_1.after args s (.returned v) u = true ∧ limb_1_2.after args s (.returned v) u = true ∧ True) → FrameEnd s (.returned v) u (Jvm.fieldLocs frame_1_writes args s ++ Jvm.arrayLocs frame_1_arrays args s ++ Jvm.staticLocs frame_1_statics s) 0 0 → Post tb e args s (.returned v) u) :
    ArmFor flags0 classFile x code maxLocals ret World_1 tables_1 room_1 Calls_1 rest_1 Pre_1 Post := by
  intro l hfl _ _ p e ha hc hk s m args below hf hA hF happ hP
  obtain ⟨hcalls, hrest, hpre⟩ := hP
  obtain ⟨-, -, -, hnamed, -, -, -, hat⟩ := (Spec.applies_iff hf).mp happ
  obtain ⟨hg, hn⟩ := and_e (Cond.before_iff.mp (show (Jvm.Cond.and given_1 narrow_1).before args s = true from hpre))
  obtain ⟨gg1, gg2⟩ := and_e hg
  obtain ⟨gg3, gg4⟩ := and_e gg2
  obtain ⟨w0, w1, rfl⟩ : ∃ w0 w1 : Value, args = #[w0, w1] := by
    have hs : args.size = 2 := by simpa [Cond.value, given_1] using gg1
    obtain ⟨L⟩ := args
    match L, hs with
    | [w0, w1], _ => exact ⟨w0, w1, rfl⟩
  have hw := fun d (hd : d ∈ tables_1) => atoms_spec (ws := Jvm.Cond.code x code maxLocals ret :: tables_1) hat d (List.mem_cons_of_mem _ hd)
  have hfit : Fit s := fun {y c} hc i hi => by
    obtain ⟨ha, rfl⟩ := Array.getElem?_eq_some_iff.mp hc
    have q := List.all_eq_true.mp ((Array.all_eq_true_iff_forall_mem.mp hF) _ (Array.getElem_mem ha)) i (List.mem_range.mpr hi)
    simpa [Array.getElem?_eq_getElem hi] using q
  obtain ⟨i0, ei0⟩ := is_v gg3
  obtain rfl : w0 = (.int i0) := Option.some.inj ei0
  obtain ⟨i1, ei1⟩ := is_v gg4
  obtain rfl : w1 = (.int i1) := Option.some.inj ei1
  obtain ⟨x0, hn0⟩ := and_e hn
  obtain ⟨y0, hm0⟩ := and_e hn0
  obtain ⟨x1, hn1⟩ := and_e hm0
  obtain ⟨y1, hm1⟩ := and_e hn1
  obtain ⟨x2, hn2⟩ := and_e hm1
  obtain ⟨y2, hm2⟩ := and_e hn2
  obtain ⟨x3, hn3⟩ := and_e hm2
  obtain ⟨y3, hm3⟩ := and_e hn3
  obtain ⟨x4, hn4⟩ := and_e hm3
  obtain ⟨y4, hm4⟩ := and_e hn4
  obtain ⟨x5, hn5⟩ := and_e hm4
  obtain ⟨y5, hm5⟩ := and_e hn5
  obtain ⟨x6, hn6⟩ := and_e hm5
  obtain ⟨y6, hm6⟩ := and_e hn6
  obtain ⟨x7, hn7⟩ := and_e hm6
  have y7 := hn7
  obtain ⟨c_SILVER, S_SILVER, E_SILVER, F_SILVER⟩ := own_const x0 y0 (hw _ (List.mem_of_getElem? (i := 5) rfl)) (hw _ (List.mem_of_getElem? (i := 6) rfl))
  obtain ⟨c_BISHOP, S_BISHOP, E_BISHOP, F_BISHOP⟩ := own_const x1 y1 (hw _ (List.mem_of_getElem? (i := 5) rfl)) (hw _ (List.mem_of_getElem? (i := 19) rfl))
  obtain ⟨c_KNIGHT, S_KNIGHT, E_KNIGHT, F_KNIGHT⟩ := own_const x2 y2 (hw _ (List.mem_of_getElem? (i := 5) rfl)) (hw _ (List.mem_of_getElem? (i := 22) rfl))
  obtain ⟨c_ROOK, S_ROOK, E_ROOK, F_ROOK⟩ := own_const x3 y3 (hw _ (List.mem_of_getElem? (i := 5) rfl)) (hw _ (List.mem_of_getElem? (i := 25) rfl))
  obtain ⟨c_LANCE, S_LANCE, E_LANCE, F_LANCE⟩ := own_const x4 y4 (hw _ (List.mem_of_getElem? (i := 5) rfl)) (hw _ (List.mem_of_getElem? (i := 28) rfl))
  obtain ⟨c_KING, S_KING, E_KING, F_KING⟩ := own_const x5 y5 (hw _ (List.mem_of_getElem? (i := 5) rfl)) (hw _ (List.mem_of_getElem? (i := 31) rfl))
  obtain ⟨c_PAWN, S_PAWN, E_PAWN, F_PAWN⟩ := own_const x6 y6 (hw _ (List.mem_of_getElem? (i := 5) rfl)) (hw _ (List.mem_of_getElem? (i := 34) rfl))
  obtain ⟨c_GOLD, S_GOLD, E_GOLD, F_GOLD⟩ := own_const x7 y7 (hw _ (List.mem_of_getElem? (i := 5) rfl)) (hw _ (List.mem_of_getElem? (i := 37) rfl))
  obtain ⟨n, o, h1, h2, h3, _, L, rfl, ⟨rfl, N⟩, hq⟩ := rm0 l s _ hw tables_1 i0 i1 c_ROOK c_BISHOP c_GOLD c_SILVER c_KNIGHT c_LANCE c_PAWN c_KING s.heap s.heap.size (Nat.le_refl _) S_ROOK S_BISHOP S_GOLD S_SILVER S_KNIGHT S_LANCE S_PAWN S_KING E_ROOK E_BISHOP E_GOLD E_SILVER E_KNIGHT E_LANCE E_PAWN E_KING F_ROOK F_BISHOP F_GOLD F_SILVER F_KNIGHT F_LANCE F_PAWN F_KING p e ha hc hk s m _ below hf ((Spec.applies_iff_loose hf).mp happ).1 ⟨rfl, State.Warmed39.refl s, rfl⟩ trivial
  refine ⟨n, _, h1, h2, h3, hpost _ _ _ _ _ _ ⟨Cond.after_iff.mpr rfl, Cond.after_iff.mpr (eq_i res_at (Term.int_eval (1)) rfl), trivial⟩ ⟨hq.1, hq.2.1, (hq.2.2.sift fun y hy => Or.inr (N y hy)).mono (by decide) (by decide)⟩⟩
theorem main_1_1 : Claimed_1_1 := comes_1 fun _ _ _ _ _ _ h hF => ⟨h.1, hF⟩
theorem main_1_2 : Claimed_1_2 := comes_1 fun _ _ _ _ _ _ h hF => ⟨h.2.1, hF⟩
end Jvm.Pilot.@@N@@
namespace Jvm.Pilot.@@N@@
open Jvm Jvm.ClassFile Sem Op Lib Jvm.Free Jvm.Stand Jvm.Pilot.@@N@@.Jvm.D
/-! MADE BY PROGRAM (witnessworld.py) out of the Statement's table words and the real class files: 12 classes; the members and pool entries that the words name. The judged class is class 1, her method 1. -/
namespace start1
open Jvm.ClassFile
def u (s : String) : CpInfo := .utf8 (stringToUtf16 s)
/-- a pool by its gaps: so many unusable entries, then the entry; so many at the end -/
def gap : Nat → List CpInfo → List CpInfo
  | 0, r => r
  | n + 1, r => .unusable :: gap n r
def poolList (es : List (Nat × CpInfo)) (last : Nat) : List CpInfo := es.foldr (fun e r => gap e.1 (e.2 :: r)) (gap last [])
def pool (es : List (Nat × CpInfo)) (last : Nat) : Array CpInfo := ⟨poolList es last⟩
def fileOf (pool : Array CpInfo) (this : Nat) (attrs : Array Attribute := #[]) (ms : Array MethodInfo := #[]) (fl : Nat := 33) (sup : Nat := 0) (ifs : Array Nat := #[]) (fds : Array FieldInfo := #[]) : ClassFile where
  minorVersion := 0
  majorVersion := 65
  constantPool := pool
  accessFlags := fl
  thisClass := this
  superClass := sup
  interfaces := ifs
  fields := fds
  methods := ms
  attributes := attrs
def plain (name : String) (sup : Option ClassId) : Class where
  name := name
  kind := .ordinary
  loader := none
  accessFlags := 33
  super := sup
  interfaces := #[]
  cf := none
  fields := #[]
  methods := #[]
  instanceTypes := #[]
  staticTypes := #[]
  resolved := #[]
  callSites := []
  init := .initialized
  statics := none
  mirror := none

def pool0 : Array CpInfo := pool [(5, u "<init>"), (0, u "()V"), (1, .class_ 10), (1, u "java/lang/Object")] 113

def k0m0 : Method := { name := "<init>", desc := "()V", sig := { parameters := [], returnType := none }, accessFlags := 1, code := none }
/-- java/lang/Object -/
def k0 : Class := { plain "java/lang/Object" none with
  accessFlags := 33
  interfaces := #[]
  cf := some (fileOf pool0 8 #[] #[{ accessFlags := 1, nameIndex := 5, descriptorIndex := 6, attributes := #[] }] 33 0 #[] #[])
  fields := #[]
  methods := #[k0m0]
  instanceTypes := #[]
  staticTypes := #[]
  resolved := Array.replicate 124 none
  statics := none }

def pool1 : Array CpInfo := pool [(2, .class_ 4), (1, u "java/lang/Object"), (0, u "<init>"), (0, u "()V"), (0, .methodref 8 9), (0, .class_ 10), (0, .nameAndType 11 12), (0, u "com/example/banmen/banmen/position/PieceTypeForLetterPinLaw"), (0, u "pick"), (0, u "(I)Lcom/example/banmen/banmen/position/PieceType;"), (0, .methodref 14 15), (0, .class_ 16), (0, .nameAndType 17 18), (0, u "com/example/banmen/banmen/position/PieceType"), (0, u "forLetter"), (0, u "(C)Lcom/example/banmen/banmen/position/PieceType;"), (0, .methodref 14 20), (0, .nameAndType 21 22), (0, u "letter"), (0, u "()C"), (0, .fieldref 14 24), (0, .nameAndType 25 26), (0, u "ROOK"), (0, u "Lcom/example/banmen/banmen/position/PieceType;"), (0, .fieldref 14 28), (0, .nameAndType 29 26), (0, u "BISHOP"), (0, .fieldref 14 31), (0, .nameAndType 32 26), (0, u "GOLD"), (0, .fieldref 14 34), (0, .nameAndType 35 26), (0, u "SILVER"), (0, .fieldref 14 37), (0, .nameAndType 38 26), (0, u "KNIGHT"), (0, .fieldref 14 40), (0, .nameAndType 41 26), (0, u "LANCE"), (0, .fieldref 14 43), (0, .nameAndType 44 26), (0, u "PAWN"), (0, .fieldref 14 46), (0, .nameAndType 47 26), (0, u "KING"), (2, u "law"), (0, u "(II)Z")] 3

def k1m0 : Method := { name := "<init>", desc := "()V", sig := { parameters := [], returnType := none }, accessFlags := 1, code := none }
def k1c1 : Code := { maxStack := 2, maxLocals := 7, code := code, exceptionTable := #[], attributes := #[] }
def k1m1 : Method := { name := "law", desc := "(II)Z", sig := { parameters := [.int, .int], returnType := some .boolean }, accessFlags := 9, code := some k1c1 }
def k1c2 : Code := { maxStack := 2, maxLocals := 1, code := method_3_code, exceptionTable := #[], attributes := #[] }
def k1m2 : Method := { name := "pick", desc := "(I)Lcom/example/banmen/banmen/position/PieceType;", sig := { parameters := [.int], returnType := some (.object "com/example/banmen/banmen/position/PieceType") }, accessFlags := 10, code := some k1c2 }
/-- com/example/banmen/banmen/position/PieceTypeForLetterPinLaw -/
def k1 : Class := { plain "com/example/banmen/banmen/position/PieceTypeForLetterPinLaw" (some 0) with
  accessFlags := 49
  interfaces := #[]
  cf := some (fileOf pool1 8 #[] #[{ accessFlags := 1, nameIndex := 5, descriptorIndex := 6, attributes := #[] }, { accessFlags := 9, nameIndex := 50, descriptorIndex := 51, attributes := #[] }, { accessFlags := 10, nameIndex := 11, descriptorIndex := 12, attributes := #[] }] 49 2 #[] #[])
  fields := #[]
  methods := #[k1m0, k1m1, k1m2]
  instanceTypes := #[]
  staticTypes := #[]
  resolved := Array.replicate 55 none
  statics := none }

def pool2 : Array CpInfo := pool [(1, .class_ 2), (0, u "java/lang/constant/Constable"), (0, .class_ 4), (0, u "java/lang/Object")] 6

/-- java/lang/constant/Constable -/
def k2 : Class := { plain "java/lang/constant/Constable" (some 0) with
  accessFlags := 1537
  interfaces := #[]
  cf := some (fileOf pool2 1 #[] #[] 1537 3 #[] #[])
  fields := #[]
  methods := #[]
  instanceTypes := #[]
  staticTypes := #[]
  resolved := Array.replicate 11 none
  statics := none }

def pool3 : Array CpInfo := pool [(1, .class_ 2), (0, u "java/lang/Comparable"), (0, .class_ 4), (0, u "java/lang/Object")] 7

/-- java/lang/Comparable -/
def k3 : Class := { plain "java/lang/Comparable" (some 0) with
  accessFlags := 1537
  interfaces := #[]
  cf := some (fileOf pool3 1 #[] #[] 1537 3 #[] #[])
  fields := #[]
  methods := #[]
  instanceTypes := #[]
  staticTypes := #[]
  resolved := Array.replicate 12 none
  statics := none }

def pool4 : Array CpInfo := pool [(1, .class_ 2), (0, u "java/io/Serializable"), (0, .class_ 4), (0, u "java/lang/Object")] 2

/-- java/io/Serializable -/
def k4 : Class := { plain "java/io/Serializable" (some 0) with
  accessFlags := 1537
  interfaces := #[]
  cf := some (fileOf pool4 1 #[] #[] 1537 3 #[] #[])
  fields := #[]
  methods := #[]
  instanceTypes := #[]
  staticTypes := #[]
  resolved := Array.replicate 7 none
  statics := none }

def pool5 : Array CpInfo := pool [(2, .class_ 4), (1, u "java/lang/Enum"), (0, u "name"), (0, u "Ljava/lang/String;"), (2, u "ordinal"), (0, u "I"), (1, .class_ 14), (1, u "java/lang/Object"), (4, u "hash"), (86, .class_ 108), (1, u "java/lang/Enum$EnumDesc"), (2, .class_ 112), (0, u "java/lang/constant/Constable"), (0, .class_ 114), (0, u "java/lang/Comparable"), (0, .class_ 116), (0, u "java/io/Serializable")] 87

/-- java/lang/Enum -/
def k5 : Class := { plain "java/lang/Enum" (some 0) with
  accessFlags := 1057
  interfaces := #[2, 3, 4]
  cf := some (fileOf pool5 2 #[.nestMembers #[106]] #[] 1057 12 #[111, 113, 115] #[{ accessFlags := 18, nameIndex := 5, descriptorIndex := 6, attributes := #[] }, { accessFlags := 18, nameIndex := 9, descriptorIndex := 10, attributes := #[] }, { accessFlags := 2, nameIndex := 19, descriptorIndex := 10, attributes := #[] }])
  fields := #[{ name := "name", type := (.object "java/lang/String"), accessFlags := 18, slot := 0, constantValue := 0 }, { name := "ordinal", type := .int, accessFlags := 18, slot := 1, constantValue := 0 }, { name := "hash", type := .int, accessFlags := 2, slot := 2, constantValue := 0 }]
  methods := #[]
  instanceTypes := #[(.object "java/lang/String"), .int, .int]
  staticTypes := #[]
  resolved := Array.replicate 204 none
  statics := none }

def pool6 : Array CpInfo := pool [(1, .class_ 2), (0, u "com/example/banmen/banmen/position/PieceType"), (0, .fieldref 1 4), (0, .nameAndType 5 6), (0, u "ROOK"), (0, u "Lcom/example/banmen/banmen/position/PieceType;"), (0, .fieldref 1 8), (0, .nameAndType 9 6), (0, u "BISHOP"), (0, .fieldref 1 11), (0, .nameAndType 12 6), (0, u "GOLD"), (0, .fieldref 1 14), (0, .nameAndType 15 6), (0, u "SILVER"), (0, .fieldref 1 17), (0, .nameAndType 18 6), (0, u "KNIGHT"), (0, .fieldref 1 20), (0, .nameAndType 21 6), (0, u "LANCE"), (0, .fieldref 1 23), (0, .nameAndType 24 6), (0, u "PAWN"), (0, .fieldref 1 26), (0, .nameAndType 27 6), (0, u "KING"), (2, u "$VALUES"), (0, u "[Lcom/example/banmen/banmen/position/PieceType;"), (6, .class_ 40), (1, u "java/lang/Enum"), (6, .fieldref 1 48), (0, .nameAndType 49 50), (0, u "letter"), (0, u "C"), (2, u "promotable"), (0, u "Z"), (22, u "()C"), (1, u "forLetter"), (0, u "(C)Lcom/example/banmen/banmen/position/PieceType;")] 6

def k6c0 : Code := { maxStack := 1, maxLocals := 1, code := prog_26_method_4_code, exceptionTable := #[], attributes := #[] }
def k6m0 : Method := { name := "letter", desc := "()C", sig := { parameters := [], returnType := some .char }, accessFlags := 1, code := some k6c0 }
def k6c1 : Code := { maxStack := 1, maxLocals := 1, code := prog_26_method_6_code, exceptionTable := #[], attributes := #[] }
def k6m1 : Method := { name := "forLetter", desc := "(C)Lcom/example/banmen/banmen/position/PieceType;", sig := { parameters := [.char], returnType := some (.object "com/example/banmen/banmen/position/PieceType") }, accessFlags := 9, code := some k6c1 }
/-- com/example/banmen/banmen/position/PieceType -/
def k6 : Class := { plain "com/example/banmen/banmen/position/PieceType" (some 5) with
  accessFlags := 16433
  interfaces := #[]
  cf := some (fileOf pool6 1 #[] #[{ accessFlags := 1, nameIndex := 49, descriptorIndex := 77, attributes := #[] }, { accessFlags := 9, nameIndex := 79, descriptorIndex := 80, attributes := #[] }] 16433 38 #[] #[{ accessFlags := 16409, nameIndex := 5, descriptorIndex := 6, attributes := #[] }, { accessFlags := 16409, nameIndex := 9, descriptorIndex := 6, attributes := #[] }, { accessFlags := 16409, nameIndex := 12, descriptorIndex := 6, attributes := #[] }, { accessFlags := 16409, nameIndex := 15, descriptorIndex := 6, attributes := #[] }, { accessFlags := 16409, nameIndex := 18, descriptorIndex := 6, attributes := #[] }, { accessFlags := 16409, nameIndex := 21, descriptorIndex := 6, attributes := #[] }, { accessFlags := 16409, nameIndex := 24, descriptorIndex := 6, attributes := #[] }, { accessFlags := 16409, nameIndex := 27, descriptorIndex := 6, attributes := #[] }, { accessFlags := 18, nameIndex := 49, descriptorIndex := 50, attributes := #[] }, { accessFlags := 18, nameIndex := 53, descriptorIndex := 54, attributes := #[] }, { accessFlags := 4122, nameIndex := 30, descriptorIndex := 31, attributes := #[] }])
  fields := #[{ name := "ROOK", type := (.object "com/example/banmen/banmen/position/PieceType"), accessFlags := 16409, slot := 0, constantValue := 0 }, { name := "BISHOP", type := (.object "com/example/banmen/banmen/position/PieceType"), accessFlags := 16409, slot := 1, constantValue := 0 }, { name := "GOLD", type := (.object "com/example/banmen/banmen/position/PieceType"), accessFlags := 16409, slot := 2, constantValue := 0 }, { name := "SILVER", type := (.object "com/example/banmen/banmen/position/PieceType"), accessFlags := 16409, slot := 3, constantValue := 0 }, { name := "KNIGHT", type := (.object "com/example/banmen/banmen/position/PieceType"), accessFlags := 16409, slot := 4, constantValue := 0 }, { name := "LANCE", type := (.object "com/example/banmen/banmen/position/PieceType"), accessFlags := 16409, slot := 5, constantValue := 0 }, { name := "PAWN", type := (.object "com/example/banmen/banmen/position/PieceType"), accessFlags := 16409, slot := 6, constantValue := 0 }, { name := "KING", type := (.object "com/example/banmen/banmen/position/PieceType"), accessFlags := 16409, slot := 7, constantValue := 0 }, { name := "letter", type := .char, accessFlags := 18, slot := 3, constantValue := 0 }, { name := "promotable", type := .boolean, accessFlags := 18, slot := 4, constantValue := 0 }, { name := "$VALUES", type := (.array (.object "com/example/banmen/banmen/position/PieceType")), accessFlags := 4122, slot := 8, constantValue := 0 }]
  methods := #[k6m0, k6m1]
  instanceTypes := #[(.object "java/lang/String"), .int, .int, .char, .boolean]
  staticTypes := #[(.object "com/example/banmen/banmen/position/PieceType"), (.object "com/example/banmen/banmen/position/PieceType"), (.object "com/example/banmen/banmen/position/PieceType"), (.object "com/example/banmen/banmen/position/PieceType"), (.object "com/example/banmen/banmen/position/PieceType"), (.object "com/example/banmen/banmen/position/PieceType"), (.object "com/example/banmen/banmen/position/PieceType"), (.object "com/example/banmen/banmen/position/PieceType"), (.array (.object "com/example/banmen/banmen/position/PieceType"))]
  resolved := Array.replicate 87 none
  statics := some 0 }

def pool7 : Array CpInfo := pool [(1, u "java/lang/Cloneable"), (0, .class_ 1), (0, u "java/lang/Object"), (0, .class_ 3)] 3

/-- java/lang/Cloneable -/
def k7 : Class := { plain "java/lang/Cloneable" (some 0) with
  accessFlags := 1537
  interfaces := #[]
  cf := some (fileOf pool7 2 #[] #[] 1537 4 #[] #[])
  fields := #[]
  methods := #[]
  instanceTypes := #[]
  staticTypes := #[]
  resolved := Array.replicate 8 none
  statics := none }

/-- the primitive byte -/
def k8 : Class := { plain "byte" none with kind := .primitive 'B', accessFlags := 0x411 }
/-- [B -/
def k9 : Class := { plain "[B" (some 0) with kind := .array 8 .byte, interfaces := #[7, 4], accessFlags := 1041 }

/-- the primitive int -/
def k10 : Class := { plain "int" none with kind := .primitive 'I', accessFlags := 0x411 }
/-- [I -/
def k11 : Class := { plain "[I" (some 0) with kind := .array 10 .int, interfaces := #[7, 4], accessFlags := 1041 }

def heap : Heap := #[{ cls := 6, slots := #[.ref 1, .ref 2, .ref 3, .ref 4, .ref 5, .ref 6, .ref 7, .ref 8, .null], vm := .statics 6 },
  { cls := 6, slots := #[.null, .int 0, .int 0, .int 82, .int 0], vm := .none },
  { cls := 6, slots := #[.null, .int 0, .int 0, .int 66, .int 0], vm := .none },
  { cls := 6, slots := #[.null, .int 0, .int 0, .int 71, .int 0], vm := .none },
  { cls := 6, slots := #[.null, .int 0, .int 0, .int 83, .int 0], vm := .none },
  { cls := 6, slots := #[.null, .int 0, .int 0, .int 78, .int 0], vm := .none },
  { cls := 6, slots := #[.null, .int 0, .int 0, .int 76, .int 0], vm := .none },
  { cls := 6, slots := #[.null, .int 0, .int 0, .int 80, .int 0], vm := .none },
  { cls := 6, slots := #[.null, .int 0, .int 0, .int 75, .int 0], vm := .none }]
def classes : Array Class := #[k0, k1, k2, k3, k4, k5, k6, k7, k8, k9, k10, k11]
def interned : List (Array UInt16 × Addr) := []
def slotsUsed : Nat := 49
def theMethod : MethodId := ⟨1, 1⟩
def args0 : Array Value := #[.int 5, .int 3]
def aboutOver (below : List Frame) : State where
  vm := { classes := classes, interned := interned.toArray }
  heap := heap
  slotsUsed := slotsUsed
  threads := #[{ frames := .invoking theMethod args0 :: below }]
def below0 : List Frame := [.native { method := ⟨0, 0⟩, args := #[] }]
def about1 : State := aboutOver below0
def p0 : Program := .bare "" "" ""
def e0 : Env := launch0.env 0 0 0
theorem w_frames : about1.frames = Frame.invoking theMethod args0 :: below0 := rfl
set_option maxRecDepth 65536 in
theorem w_args : argsFit about1.vm theMethod args0 = true := by decide +kernel
set_option maxRecDepth 65536 in
theorem w_heap : heapFits about1 = true := by decide +kernel
set_option maxRecDepth 65536 in
theorem w_runnable : about1.curStatus? = some .runnable := by decide +kernel
set_option maxRecDepth 65536 in
theorem w_alone : about1.alone = true := by decide +kernel
set_option maxRecDepth 65536 in
theorem w_named : about1.methodNamed? x = some theMethod := by decide +kernel
set_option maxRecDepth 65536 in
theorem w_hears : about1.hears theMethod below0 = true := by decide +kernel
set_option maxRecDepth 65536 in
theorem w_ripe : about1.ripe theMethod args0 below0 = true := by decide +kernel
theorem w_running : about1.status = .running := rfl
set_option maxRecDepth 65536 in
theorem w_room : about1.hasRoom e0.platform room_1 = true :=
  launch0.hasRoom_least _ room_1 (by decide +kernel) (by decide +kernel) (by decide +kernel) (by decide +kernel) (by decide +kernel) (by decide +kernel)
theorem allAtoms_all (ts : List Jvm.Cond) (a : Array Jvm.Value) (st : Jvm.State) : (allAtoms ts).before a st = ts.all (fun c => c.before a st) := by
  induction ts with
  | nil => rfl
  | cons c t ih =>
    show (Jvm.Cond.and c (allAtoms t)).before a st = _
    rw [Jvm.Cond.before_and, ih, List.all_cons]
def words1 : List Jvm.Cond := Jvm.Cond.code x code maxLocals ret :: tables_1
/-- a 'code' word, met by the world's own term for the bytes: nothing is compared byte by byte -/
theorem code_word {y : MethodName} {bytes : ByteArray} {mx : Nat} {rt : Option FieldType} {a : Array Value} {s : State} {m : MethodId} {meth : Method} {c : Code} (h1 : s.methodNamed? y = some m) (h2 : s.vm.method? m = some meth) (h3 : meth.code = some c) (h4 : c.code = bytes)
    (h5 : (c.maxLocals == mx && c.exceptionTable.isEmpty && decide (c.maxStack ≤ mostOperands) && decide (meth.sig.returnType = rt) && !meth.locks && decide (parseMethodDescriptor y.desc = some meth.sig)) = true) : (Jvm.Cond.code y bytes mx rt).before a s = true := by
  simp only [Bool.and_eq_true, beq_iff_eq, Bool.not_eq_true', decide_eq_true_eq] at h5
  obtain ⟨⟨⟨⟨⟨g1, g2⟩, g3⟩, g4⟩, g5⟩, g6⟩ := h5
  simp [Cond.before, Cond.holds, Cond.value, h1, h2, h3, h4, g1, g2, g3, g4, g5, g6]
def isCode : Jvm.Cond → Bool
  | .code _ _ _ _ => true
  | _ => false
theorem all_split {L : List Jvm.Cond} {P : Jvm.Cond → Bool} (h1 : L.all (fun c => isCode c || P c) = true) (h2 : ∀ c ∈ L.filter isCode, P c = true) : L.all P = true := by
  refine List.all_eq_true.mpr fun c hc => ?_
  have h := List.all_eq_true.mp h1 c hc
  rcases Bool.eq_false_or_eq_true (isCode c) with hi | hi
  · exact h2 c (List.mem_filter.mpr ⟨hc, hi⟩)
  · simpa [hi] using h
set_option maxRecDepth 65536 in
theorem w_c0 : (Jvm.Cond.code x code maxLocals ret).before args0 about1 = true := code_word (m := ⟨1, 1⟩) (meth := k1m1) (c := k1c1) (by decide +kernel) rfl rfl rfl (by decide +kernel)
set_option maxRecDepth 65536 in
theorem w_c1 : (Jvm.Cond.code ({ cls := "com/example/banmen/banmen/position/PieceTypeForLetterPinLaw", name := "pick", desc := "(I)Lcom/example/banmen/banmen/position/PieceType;" } : Jvm.MethodName) method_3_code (1 : Nat) (Option.some (Jvm.ClassFile.FieldType.object "com/example/banmen/banmen/position/PieceType"))).before args0 about1 = true := code_word (m := ⟨1, 2⟩) (meth := k1m2) (c := k1c2) (by decide +kernel) rfl rfl rfl (by decide +kernel)
set_option maxRecDepth 65536 in
theorem w_c2 : (Jvm.Cond.code ({ cls := "com/example/banmen/banmen/position/PieceType", name := "forLetter", desc := "(C)Lcom/example/banmen/banmen/position/PieceType;" } : Jvm.MethodName) prog_26_method_6_code (1 : Nat) (Option.some (Jvm.ClassFile.FieldType.object "com/example/banmen/banmen/position/PieceType"))).before args0 about1 = true := code_word (m := ⟨6, 1⟩) (meth := k6m1) (c := k6c1) (by decide +kernel) rfl rfl rfl (by decide +kernel)
set_option maxRecDepth 65536 in
theorem w_c3 : (Jvm.Cond.code ({ cls := "com/example/banmen/banmen/position/PieceType", name := "letter", desc := "()C" } : Jvm.MethodName) prog_26_method_4_code (1 : Nat) (Option.some Jvm.ClassFile.FieldType.char)).before args0 about1 = true := code_word (m := ⟨6, 0⟩) (meth := k6m0) (c := k6c0) (by decide +kernel) rfl rfl rfl (by decide +kernel)
def codes1 : List Jvm.Cond := [Jvm.Cond.code x code maxLocals ret, Jvm.Cond.code ({ cls := "com/example/banmen/banmen/position/PieceTypeForLetterPinLaw", name := "pick", desc := "(I)Lcom/example/banmen/banmen/position/PieceType;" } : Jvm.MethodName) method_3_code (1 : Nat) (Option.some (Jvm.ClassFile.FieldType.object "com/example/banmen/banmen/position/PieceType")), Jvm.Cond.code ({ cls := "com/example/banmen/banmen/position/PieceType", name := "forLetter", desc := "(C)Lcom/example/banmen/banmen/position/PieceType;" } : Jvm.MethodName) prog_26_method_6_code (1 : Nat) (Option.some (Jvm.ClassFile.FieldType.object "com/example/banmen/banmen/position/PieceType")), Jvm.Cond.code ({ cls := "com/example/banmen/banmen/position/PieceType", name := "letter", desc := "()C" } : Jvm.MethodName) prog_26_method_4_code (1 : Nat) (Option.some Jvm.ClassFile.FieldType.char)]
set_option maxRecDepth 65536 in
theorem codes_eq : words1.filter isCode = codes1 := rfl
theorem w_codes : ∀ c ∈ words1.filter isCode, c.before args0 about1 = true := by
  rw [codes_eq]
  intro c hc
  simp only [codes1, List.mem_cons, List.not_mem_nil, or_false] at hc
  rcases hc with rfl | rfl | rfl | rfl
  · exact w_c0
  · exact w_c1
  · exact w_c2
  · exact w_c3
set_option maxRecDepth 65536 in
theorem w_t1 : (words1.take 24).all (fun c => isCode c || c.before args0 about1) = true := by decide +kernel
set_option maxRecDepth 65536 in
theorem w_t2 : (words1.drop 24).all (fun c => isCode c || c.before args0 about1) = true := by decide +kernel
theorem w_tables : (allAtoms (Jvm.Cond.code x code maxLocals ret :: tables_1)).before args0 about1 = true := by
  rw [allAtoms_all]
  show words1.all (fun c => c.before args0 about1) = true
  refine all_split ?_ w_codes
  rw [← List.take_append_drop 24 words1, List.all_append, w_t1, w_t2]
  rfl
set_option maxRecDepth 65536 in
theorem w_case : (Jvm.Cond.and given_1 narrow_1).before args0 about1 = true := by decide +kernel
theorem w_applies : (headSpec (Jvm.Cond.code x code maxLocals ret :: tables_1) room_1).applies x e0.platform about1 = true :=
  (Spec.applies_iff w_frames).mpr ⟨w_running, w_runnable, w_alone, w_named, w_hears, w_ripe, w_room, w_tables⟩
theorem atStart : AtStart classFile x code maxLocals ret World_1 tables_1 room_1 Calls_1 rest_1 Pre_1 launch0 p0 e0 about1 theMethod args0 below0 :=
  ⟨lists_1, trivial, launch0.admits_env _ _ _, launch0.least_env, fairChoices_fair.cas, fairChoices_fair.clock, w_frames, w_args, w_heap, w_applies, trivial, trivial, w_case⟩
end start1
theorem witness_1 : WitnessClaimed_1 := ⟨start1.p0, start1.e0, start1.about1, start1.theMethod, start1.args0, start1.below0, start1.atStart⟩
end Jvm.Pilot.@@N@@
