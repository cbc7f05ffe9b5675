import JvmDerived
import JvmDerived.Pilot.@@N@@Statement
import JvmDerived.Pilot.@@N@@Code
set_option linter.unusedVariables false
set_option linter.unusedSimpArgs false
namespace Jvm.RoadKit
open Sem ClassFile Op Lib Jvm.Stand Jvm.Free Jvm.LawKit
section New
variable {p : Program} {l : Launch} {e : Env} {R : Room} {s : State} {m : MethodId} {args : Array Value} {below : List Frame} {meth : Method} {c : Code} {T : State} {locs : List Loc} {cells slots : Nat}
theorem retI (X : Stand p l e R s m args below meth c T locs cells slots) (hx : p.tables.exec = Jvm.exec) {pc : Nat} {Ls : Array Slot} {z : Int32} {rest : List Value} (hret : meth.sig.returnType = some .int) (hd : decode c.code pc = .ok (.ireturn, 1)) {fs : List Frame}
    (hl : ∀ (f : JFrame) (acts : List Action), f.method = m → f.locked = none → f.entered = [] → (doReturn e (T.setTop f) acts (some (.int z))).1 = T.setFrames fs) : Steps p.tables e below (T.setTop (mkF m pc Ls (.int z :: rest))) (T.setFrames fs) := by
  have hm' : T.vm.method? m = some meth := X.method'
  have hn : narrow .int (.int z) = .int z := rfl
  show Steps p.tables e below (T.setTop { method := m, pc := pc, locals := Ls, stack := _ :: rest, locked := none }) _
  jvm_step X.here [X.here.top, hx, hd, hm', hret, hn]
  first | (intro acts; rw [hl _ acts rfl rfl rfl]) | rw [hl _ _ rfl rfl rfl]
  exact Steps.refl _
/-- from here the run ends as G says -/
def WP (tb : Tables) (e : Env) (below : List Frame) (G : State → Outcome → Prop) (T : State) (f : JFrame) : Prop := ∃ s₂ o, Steps tb e below (T.setTop f) s₂ ∧ G s₂ o
theorem WP.go {tb : Tables} {G : State → Outcome → Prop} {f : JFrame} (h : WP tb e below G T f) : ∃ s₂ o, Steps tb e below (T.setTop f) s₂ ∧ G s₂ o := h
theorem WP.fin {tb : Tables} {G : State → Outcome → Prop} {f : JFrame} (h : ∃ s₂ o, Steps tb e below (T.setTop f) s₂ ∧ G s₂ o) : WP tb e below G T f := h
theorem WP.cast {tb : Tables} {G : State → Outcome → Prop} {f f' : JFrame} (q : f = f') (h : WP tb e below G T f') : WP tb e below G T f := q ▸ h
theorem WP.st {tb : Tables} {G : State → Outcome → Prop} {T' : State} {f f' : JFrame} (k : ∀ t, Steps tb e below (T'.setTop f') t → Steps tb e below (T.setTop f) t) (h : WP tb e below G T' f') : WP tb e below G T f := by
  obtain ⟨s₂, o, h1, h2⟩ := h
  exact ⟨s₂, o, k _ h1, h2⟩
theorem WP.tr {tb : Tables} {G : State → Outcome → Prop} {T' : State} {f f' : JFrame} (k : Steps tb e below (T.setTop f) (T'.setTop f')) (h : WP tb e below G T' f') : WP tb e below G T f := by
  obtain ⟨s₂, o, h1, h2⟩ := h
  exact ⟨s₂, o, k.trans h1, h2⟩
theorem WP.name {tb : Tables} {G : State → Outcome → Prop} {f : JFrame} (h : ∀ G', G' = G → WP tb e below G' T f) : WP tb e below G T f := h G rfl
theorem ownWider (X : Stand p l e R s m args below meth c T locs cells slots) {c' s' : Nat} (h1 : cells ≤ c') (h2 : slots ≤ s') : Stand p l e R s m args below meth c T locs c' s' := { X with same := X.same.mono h1 h2 }
end New
theorem Arv.rd {Z : State} {h : Heap} {a : Addr} {k : ClassId} {ty : FieldType} {z j : Int32} {vs : List Value} {dv : Value} (F : Arv Z h a k ty z vs dv) (hj : ¬ j < 0 ∧ j < z) : ∃ c : Cell, Arr Z h a c ty ∧ ¬ (j < 0 ∨ c.slots.size ≤ j.toNatClampNeg) ∧ c.slots[j.toNatClampNeg]? = some (vs.getD j.toNatClampNeg dv) ∧ c.slots.size.toInt32 = z := by
  obtain ⟨c, A, -, S, q, H, -⟩ := F
  have hin := inb_of S hj
  exact ⟨c, A, hin, H.at hin rfl, len_of S q⟩
theorem Arv.len {Z : State} {h : Heap} {a : Addr} {k : ClassId} {ty : FieldType} {z : Int32} {vs : List Value} {dv : Value} (F : Arv Z h a k ty z vs dv) : ∃ c : Cell, Arr Z h a c ty ∧ c.slots.size.toInt32 = z := by
  obtain ⟨c, A, -, S, q, -, -⟩ := F
  exact ⟨c, A, len_of S q⟩
theorem ownSel {s : State} {args : Array Value} {C : String} {x z y : MethodName} (hz : (Cond.selects C x z).before args s = true) (e : z.cls = y.cls) (hpriv : s.PrivateAt y) (hinst : (Cond.instanceMethod y).before args s = true) (hy : y.cls ≠ "java/lang/invoke/MethodHandle" ∧ y.cls ≠ "java/lang/invoke/VarHandle") : (Cond.selects y.cls y y).before args s = true := by
  obtain ⟨c2, r2, m2, -, -, q3, -, kP, hkP, hkPi⟩ := Cond.selects_spec hz
  exact selects_self_of_private (e ▸ findClass_of_methodNamed q3) hkP hkPi hpriv hinst hy
theorem ownNeOr {o x y : Addr} {h : Heap} (hn : o ≠ y) (hl : o < h.size) (hor : x = y ∨ h.size ≤ x) : o ≠ x := hor.elim (fun q => q ▸ hn) (fun q => Nat.ne_of_lt (Nat.lt_of_lt_of_le hl q))
theorem ownFits {t : FieldType} {x : Int32} {y : Value} (h : narrow t (.int x) = y) (hf : fits t (narrow t (.int x)) = true) : fits t y = true := h ▸ hf
theorem nar01 {b : Int32} (h : b = 0 ∨ b = 1) : nar .boolean b = b := by rcases h with rfl | rfl <;> rfl
end Jvm.RoadKit
namespace Jvm.Pilot.@@N@@
open Jvm Jvm.ClassFile Sem Op Lib Jvm.Free Jvm.Stand Jvm.LawKit Jvm.RoadKit Bundle Jvm.Pilot.@@N@@.Jvm.D
def own_before (a b c d : UInt64) : Int32 := if cmpValue (FP.dcmp a c) .g < 0 then 1 else if cmpValue (FP.dcmp a c) .l = 0 then (if cmpValue (FP.dcmp b d) .g < 0 then 1 else 0) else 0
theorem ef_8 (m : MethodId) (z0 : UInt64) (z1 : UInt64) (z2 : UInt64) (z3 : UInt64) : entryFrame m #[(.double z0), (.double z1), (.double z2), (.double z3)] 8 = mkF m 0 #[.val (.double z0), .second, .val (.double z1), .second, .val (.double z2), .second, .val (.double z3), .second] [] := by
  all_goals first | (simp [entryFrame, mkF, argsToLocals, Value.category]; done) | rfl
theorem pn_0 : plainName "com/example/tandemcab/tandemcab/NodeQueue" = true := by first | (simp [plainName, overriddenIn]; done) | decide +kernel
theorem d8_0 : decode prog_49_method_11_code 0 = .ok (.dload_n 0, 1) := by decide +kernel
theorem d8_1 : decode prog_49_method_11_code 1 = .ok (.dload 4, 2) := by decide +kernel
theorem d8_3 : decode prog_49_method_11_code 3 = .ok (.dcmp .g, 1) := by decide +kernel
theorem d8_4 : decode prog_49_method_11_code 4 = .ok (.ifCond .lt 17, 3) := by decide +kernel
theorem d8_21 : decode prog_49_method_11_code 21 = .ok (.iconst 1, 1) := by decide +kernel
theorem d8_22 : decode prog_49_method_11_code 22 = .ok (.goto 4, 3) := by decide +kernel
theorem d8_26 : decode prog_49_method_11_code 26 = .ok (.ireturn, 1) := by decide +kernel
theorem d8_7 : decode prog_49_method_11_code 7 = .ok (.dload_n 0, 1) := by decide +kernel
theorem d8_8 : decode prog_49_method_11_code 8 = .ok (.dload 4, 2) := by decide +kernel
theorem d8_10 : decode prog_49_method_11_code 10 = .ok (.dcmp .l, 1) := by decide +kernel
theorem d8_11 : decode prog_49_method_11_code 11 = .ok (.ifCond .ne 14, 3) := by decide +kernel
theorem d8_14 : decode prog_49_method_11_code 14 = .ok (.dload_n 2, 1) := by decide +kernel
theorem d8_15 : decode prog_49_method_11_code 15 = .ok (.dload 6, 2) := by decide +kernel
theorem d8_17 : decode prog_49_method_11_code 17 = .ok (.dcmp .g, 1) := by decide +kernel
theorem d8_18 : decode prog_49_method_11_code 18 = .ok (.ifCond .ge 7, 3) := by decide +kernel
theorem d8_25 : decode prog_49_method_11_code 25 = .ok (.iconst 0, 1) := by decide +kernel
def Q8 (Z : State) (x1 : UInt64) (x2 : UInt64) (x3 : UInt64) (x4 : UInt64) (h0 : Heap) (n0 : Nat) (v : Option Value) (h : Heap) (L : List Loc) : Prop := v = some (.int (own_before x1 x2 x3 x4)) ∧ Fr n0 L ∧ h = h0
set_option maxRecDepth 65536 in
set_option maxHeartbeats 40000000 in
theorem rm8 (l : Launch) (Z : State) (a0 : Array Value) (hw : ∀ d ∈ tables_1, d.before a0 Z = true) (wsC : List Jvm.Cond) (x1 : UInt64) (x2 : UInt64) (x3 : UInt64) (x4 : UInt64) (h0 : Heap) (n0 : Nat) (Z0 : n0 ≤ h0.size)  :
    MetFree l (⟨"com/example/tandemcab/tandemcab/NodeQueue", "before", "(DDDD)Z"⟩ : MethodName) (head1 (Jvm.Cond.code (⟨"com/example/tandemcab/tandemcab/NodeQueue", "before", "(DDDD)Z"⟩ : MethodName) prog_49_method_11_code 8 (some .boolean) :: wsC) ({ frames := 0, cells := 0, slots := 0, locals := 0 } : Room)) (fun a U => a = #[(.double x1), (.double x2), (.double x3), (.double x4)] ∧ Z.Warmed39 U.vm ∧ U.heap = h0) (fun _ _ _ _ _ => True) (fun _ U o U' => ∃ v L, o = .returned v ∧ Q8 Z x1 x2 x3 x4 h0 n0 v U'.heap L ∧ FrameEnd U o U' L ({ frames := 0, cells := 0, slots := 0, locals := 0 } : Room).cells ({ frames := 0, cells := 0, slots := 0, locals := 0 } : Room).slots) := by
  refine MetFree.of_bodySF (plainFor_of_name pn_0) hisR ?_
  intro p e s m args below meth c s₁ Bd hml0 hP hK
  obtain ⟨rfl, hZ, hh⟩ := hP
  have hx := Bd.exec
  have hby := Bd.bytes
  have hml : c.maxLocals = 8 := hml0
  have hown : s.vm.findClass "com/example/tandemcab/tandemcab/NodeQueue" = some m.cls := findClass_of_methodNamed Bd.named
  have hnm := (name_of_methodNamed Bd.named Bd.method).1
  have X0 : Stand p l e ({ frames := 0, cells := 0, slots := 0, locals := 0 } : Room) s m #[(.double x1), (.double x2), (.double x3), (.double x4)] below meth c s₁ [] 0 0 := Stand.of_body Bd
  have e0 : s₁.heap = h0 := by rw [← hh, Bd.state]; rfl
  have NF := Fr.nil n0
  refine WP.go ?_
  refine WP.cast (ef_8 m x1 x2 x3 x4) ?_
  refine WP.name ?_
  intro G hG
  refine WP.st (T' := s₁) (f' := (mkF m 4 #[.val (.double x1), .second, .val (.double x2), .second, .val (.double x3), .second, .val (.double x4), .second] [(.int (cmpValue (FP.dcmp x1 x3) .g))])) (fun t k => ?_) ?_
  · refine XS.dloadN X0.here hx rfl (hb hby d8_0) rfl ?_
    refine XS.dload X0.here hx rfl (hb hby d8_1) rfl ?_
    refine XS.dcmpS X0.here hx rfl (hb hby d8_3) rfl rfl ?_
    exact k
  by_cases hc1 : (cmpValue (FP.dcmp x1 x3) .g) < (0 : Int32)
  · skip
    refine WP.st (T' := s₁) (f' := (mkF m 26 #[.val (.double x1), .second, .val (.double x2), .second, .val (.double x3), .second, .val (.double x4), .second] [(.int 1)])) (fun t k => ?_) ?_
    · refine XS.ifYes X0.here hx rfl (pc0 := 4) (pc' := 21) rfl (hb hby d8_4) rfl ((if0 _ _).trans (tlt hc1).1) (by decide) (by decide) ?_
      refine XS.iconst X0.here hx rfl (hb hby d8_21) ?_
      refine XS.goto X0.here hx rfl (pc0 := 22) (pc' := 26) rfl (hb hby d8_22) (by decide) (by decide) ?_
      exact k
    subst hG
    obtain ⟨fs, hr, hrun, hended, hW, hsame⟩ := X0.leave (v := some (.int 1)) (fun h => by rw [Bd.returns] at h; cases h)
    refine WP.fin ⟨_, _, ?_, hrun, hended, _, _, rfl, ?_, ⟨_, rfl⟩, hW, hsame.mono (by decide) (by decide)⟩
    · exact retN X0 hx (t := .boolean) Bd.returns (by simp) (hb hby d8_26) hr
    · show Q8 Z x1 x2 x3 x4 h0 n0 _ s₁.heap _
      rw [e0]
      exact ⟨(by simp [own_before, hc1]), NF, rfl⟩
  · skip
    refine WP.st (T' := s₁) (f' := (mkF m 11 #[.val (.double x1), .second, .val (.double x2), .second, .val (.double x3), .second, .val (.double x4), .second] [(.int (cmpValue (FP.dcmp x1 x3) .l))])) (fun t k => ?_) ?_
    · refine XS.ifNo X0.here hx rfl (hb hby d8_4) rfl ((if0 _ _).trans (flt hc1).1) ?_
      refine XS.dloadN X0.here hx rfl (hb hby d8_7) rfl ?_
      refine XS.dload X0.here hx rfl (hb hby d8_8) rfl ?_
      refine XS.dcmpS X0.here hx rfl (hb hby d8_10) rfl rfl ?_
      exact k
    by_cases hc2 : (cmpValue (FP.dcmp x1 x3) .l) = (0 : Int32)
    · skip
      refine WP.st (T' := s₁) (f' := (mkF m 18 #[.val (.double x1), .second, .val (.double x2), .second, .val (.double x3), .second, .val (.double x4), .second] [(.int (cmpValue (FP.dcmp x2 x4) .g))])) (fun t k => ?_) ?_
      · refine XS.ifNo X0.here hx rfl (hb hby d8_11) rfl ((if0 _ _).trans (teq hc2).2) ?_
        refine XS.dloadN X0.here hx rfl (hb hby d8_14) rfl ?_
        refine XS.dload X0.here hx rfl (hb hby d8_15) rfl ?_
        refine XS.dcmpS X0.here hx rfl (hb hby d8_17) rfl rfl ?_
        exact k
      by_cases hc3 : (cmpValue (FP.dcmp x2 x4) .g) < (0 : Int32)
      · skip
        refine WP.st (T' := s₁) (f' := (mkF m 26 #[.val (.double x1), .second, .val (.double x2), .second, .val (.double x3), .second, .val (.double x4), .second] [(.int 1)])) (fun t k => ?_) ?_
        · refine XS.ifNo X0.here hx rfl (hb hby d8_18) rfl ((if0 _ _).trans (tlt hc3).2.1) ?_
          refine XS.iconst X0.here hx rfl (hb hby d8_21) ?_
          refine XS.goto X0.here hx rfl (pc0 := 22) (pc' := 26) rfl (hb hby d8_22) (by decide) (by decide) ?_
          exact k
        subst hG
        obtain ⟨fs, hr, hrun, hended, hW, hsame⟩ := X0.leave (v := some (.int 1)) (fun h => by rw [Bd.returns] at h; cases h)
        refine WP.fin ⟨_, _, ?_, hrun, hended, _, _, rfl, ?_, ⟨_, rfl⟩, hW, hsame.mono (by decide) (by decide)⟩
        · exact retN X0 hx (t := .boolean) Bd.returns (by simp) (hb hby d8_26) hr
        · show Q8 Z x1 x2 x3 x4 h0 n0 _ s₁.heap _
          rw [e0]
          exact ⟨(by simp [own_before, hc1, hc2, hc3]), NF, rfl⟩
      · skip
        refine WP.st (T' := s₁) (f' := (mkF m 26 #[.val (.double x1), .second, .val (.double x2), .second, .val (.double x3), .second, .val (.double x4), .second] [(.int 0)])) (fun t k => ?_) ?_
        · refine XS.ifYes X0.here hx rfl (pc0 := 18) (pc' := 25) rfl (hb hby d8_18) rfl ((if0 _ _).trans (flt hc3).2.1) (by decide) (by decide) ?_
          refine XS.iconst X0.here hx rfl (hb hby d8_25) ?_
          exact k
        subst hG
        obtain ⟨fs, hr, hrun, hended, hW, hsame⟩ := X0.leave (v := some (.int 0)) (fun h => by rw [Bd.returns] at h; cases h)
        refine WP.fin ⟨_, _, ?_, hrun, hended, _, _, rfl, ?_, ⟨_, rfl⟩, hW, hsame.mono (by decide) (by decide)⟩
        · exact retN X0 hx (t := .boolean) Bd.returns (by simp) (hb hby d8_26) hr
        · show Q8 Z x1 x2 x3 x4 h0 n0 _ s₁.heap _
          rw [e0]
          exact ⟨(by simp [own_before, hc1, hc2, hc3]), NF, rfl⟩
    · skip
      refine WP.st (T' := s₁) (f' := (mkF m 26 #[.val (.double x1), .second, .val (.double x2), .second, .val (.double x3), .second, .val (.double x4), .second] [(.int 0)])) (fun t k => ?_) ?_
      · refine XS.ifYes X0.here hx rfl (pc0 := 11) (pc' := 25) rfl (hb hby d8_11) rfl ((if0 _ _).trans (feq hc2).2) (by decide) (by decide) ?_
        refine XS.iconst X0.here hx rfl (hb hby d8_25) ?_
        exact k
      subst hG
      obtain ⟨fs, hr, hrun, hended, hW, hsame⟩ := X0.leave (v := some (.int 0)) (fun h => by rw [Bd.returns] at h; cases h)
      refine WP.fin ⟨_, _, ?_, hrun, hended, _, _, rfl, ?_, ⟨_, rfl⟩, hW, hsame.mono (by decide) (by decide)⟩
      · exact retN X0 hx (t := .boolean) Bd.returns (by simp) (hb hby d8_26) hr
      · show Q8 Z x1 x2 x3 x4 h0 n0 _ s₁.heap _
        rw [e0]
        exact ⟨(by simp [own_before, hc1, hc2]), NF, rfl⟩
theorem ef_4 (m : MethodId) (z0 : Addr) : entryFrame m #[(.ref z0)] 1 = mkF m 0 #[.val (.ref z0)] [] := by
  all_goals first | (simp [entryFrame, mkF, argsToLocals, Value.category]; done) | rfl
theorem d4_0 : decode prog_49_method_2_code 0 = .ok (.aload_n 0, 1) := by decide +kernel
theorem w_24 {a0 : Array Value} {Z : State} (hw : ∀ d ∈ tables_1, d.before a0 Z = true) : (Jvm.Cond.fieldLink "com/example/tandemcab/tandemcab/NodeQueue" (23 : Nat) "com/example/tandemcab/tandemcab/NodeQueue" "size" "I").before a0 Z = true := hw _ (List.mem_of_getElem? (i := 24) rfl)
theorem d4_1 : decode prog_49_method_2_code 1 = .ok (.getfield 23, 3) := by decide +kernel
theorem d4_4 : decode prog_49_method_2_code 4 = .ok (.ifCond .ne 7, 3) := by decide +kernel
theorem d4_7 : decode prog_49_method_2_code 7 = .ok (.iconst 1, 1) := by decide +kernel
theorem d4_8 : decode prog_49_method_2_code 8 = .ok (.goto 4, 3) := by decide +kernel
theorem d4_12 : decode prog_49_method_2_code 12 = .ok (.ireturn, 1) := by decide +kernel
theorem d4_11 : decode prog_49_method_2_code 11 = .ok (.iconst 0, 1) := by decide +kernel
def Q4 (Z : State) (a1 : Addr) (u1 : Int32) (h0 : Heap) (n0 : Nat) (v : Option Value) (h : Heap) (L : List Loc) : Prop := v = some (.int (if u1 = 0 then (1 : Int32) else 0)) ∧ Fr n0 L ∧ h = h0
set_option maxRecDepth 65536 in
set_option maxHeartbeats 40000000 in
theorem rm4 (l : Launch) (Z : State) (a0 : Array Value) (hw : ∀ d ∈ tables_1, d.before a0 Z = true) (wsC : List Jvm.Cond) (a1 : Addr) (u1 : Int32) (h0 : Heap) (n0 : Nat) (Z0 : n0 ≤ h0.size) (F_a1_size : Fld Z h0 a1 "com/example/tandemcab/tandemcab/NodeQueue" "size" "I" (.int u1)) :
    MetFree l (⟨"com/example/tandemcab/tandemcab/NodeQueue", "isEmpty", "()Z"⟩ : MethodName) (head1 (Jvm.Cond.code (⟨"com/example/tandemcab/tandemcab/NodeQueue", "isEmpty", "()Z"⟩ : MethodName) prog_49_method_2_code 1 (some .boolean) :: wsC) ({ frames := 0, cells := 0, slots := 0, locals := 0 } : Room)) (fun a U => a = #[(.ref a1)] ∧ Z.Warmed39 U.vm ∧ U.heap = h0) (fun _ _ _ _ _ => True) (fun _ U o U' => ∃ v L, o = .returned v ∧ Q4 Z a1 u1 h0 n0 v U'.heap L ∧ FrameEnd U o U' L ({ frames := 0, cells := 0, slots := 0, locals := 0 } : Room).cells ({ frames := 0, cells := 0, slots := 0, locals := 0 } : Room).slots) := by
  refine MetFree.of_bodySF (plainFor_of_name pn_0) hisR ?_
  intro p e s m args below meth c s₁ Bd hml0 hP hK
  obtain ⟨rfl, hZ, hh⟩ := hP
  have hx := Bd.exec
  have hby := Bd.bytes
  have hml : c.maxLocals = 1 := hml0
  have hown : s.vm.findClass "com/example/tandemcab/tandemcab/NodeQueue" = some m.cls := findClass_of_methodNamed Bd.named
  have hnm := (name_of_methodNamed Bd.named Bd.method).1
  have X0 : Stand p l e ({ frames := 0, cells := 0, slots := 0, locals := 0 } : Room) s m #[(.ref a1)] below meth c s₁ [] 0 0 := Stand.of_body Bd
  have e0 : s₁.heap = h0 := by rw [← hh, Bd.state]; rfl
  have NF := Fr.nil n0
  refine WP.go ?_
  refine WP.cast (ef_4 m a1) ?_
  refine WP.name ?_
  intro G hG
  refine WP.st (T' := s₁) (f' := (mkF m 1 #[.val (.ref a1)] [(.ref a1)])) (fun t k => ?_) ?_
  · refine XS.aloadN X0.here hx rfl (hb hby d4_0) rfl rfl ?_
    exact k
  obtain ⟨T4, X4, e4, st4⟩ := getF X0 hx hZ hown (host := "") (Or.inl (w_24 hw)) Via.refl e0 F_a1_size (g := (mkF m 1 #[.val (.ref a1)] [(.ref a1)])) rfl rfl (hb hby d4_1)
  refine WP.st st4 ?_
  clear st4
  show WP p.tables e below _ T4 (mkF m 4 #[.val (.ref a1)] [(.int u1)])
  by_cases hc5 : u1 = (0 : Int32)
  · skip
    refine WP.st (T' := T4) (f' := (mkF m 12 #[.val (.ref a1)] [(.int 1)])) (fun t k => ?_) ?_
    · refine XS.ifNo X4.here hx rfl (hb hby d4_4) rfl ((if0 _ _).trans (teq hc5).2) ?_
      refine XS.iconst X4.here hx rfl (hb hby d4_7) ?_
      refine XS.goto X4.here hx rfl (pc0 := 8) (pc' := 12) rfl (hb hby d4_8) (by decide) (by decide) ?_
      exact k
    subst hG
    obtain ⟨fs, hr, hrun, hended, hW, hsame⟩ := X4.leave (v := some (.int 1)) (fun h => by rw [Bd.returns] at h; cases h)
    refine WP.fin ⟨_, _, ?_, hrun, hended, _, _, rfl, ?_, ⟨_, rfl⟩, hW, hsame.mono (by decide) (by decide)⟩
    · exact retN X4 hx (t := .boolean) Bd.returns (by simp) (hb hby d4_12) hr
    · show Q4 Z a1 u1 h0 n0 _ T4.heap _
      rw [e4]
      exact ⟨(by simp [hc5]), NF, rfl⟩
  · skip
    refine WP.st (T' := T4) (f' := (mkF m 12 #[.val (.ref a1)] [(.int 0)])) (fun t k => ?_) ?_
    · refine XS.ifYes X4.here hx rfl (pc0 := 4) (pc' := 11) rfl (hb hby d4_4) rfl ((if0 _ _).trans (feq hc5).2) (by decide) (by decide) ?_
      refine XS.iconst X4.here hx rfl (hb hby d4_11) ?_
      exact k
    subst hG
    obtain ⟨fs, hr, hrun, hended, hW, hsame⟩ := X4.leave (v := some (.int 0)) (fun h => by rw [Bd.returns] at h; cases h)
    refine WP.fin ⟨_, _, ?_, hrun, hended, _, _, rfl, ?_, ⟨_, rfl⟩, hW, hsame.mono (by decide) (by decide)⟩
    · exact retN X4 hx (t := .boolean) Bd.returns (by simp) (hb hby d4_12) hr
    · show Q4 Z a1 u1 h0 n0 _ T4.heap _
      rw [e4]
      exact ⟨(by simp [hc5]), NF, rfl⟩
theorem ef_1 (m : MethodId) (z0 : Addr) : entryFrame m #[(.ref z0), (.int 3)] 2 = mkF m 0 #[.val (.ref z0), .val (.int 3)] [] := by
  all_goals first | (simp [entryFrame, mkF, argsToLocals, Value.category]; done) | rfl
theorem d1_0 : decode prog_49_method_1_code 0 = .ok (.aload_n 0, 1) := by decide +kernel
theorem w_6 {a0 : Array Value} {Z : State} (hw : ∀ d ∈ tables_1, d.before a0 Z = true) : (Jvm.Cond.methodLink "com/example/tandemcab/tandemcab/NodeQueue" (1 : Nat) ({ cls := "java/lang/Object", name := "<init>", desc := "()V" } : Jvm.MethodName)).before a0 Z = true := hw _ (List.mem_of_getElem? (i := 6) rfl)
theorem d1_1 : decode prog_49_method_1_code 1 = .ok (.invokespecial 1, 3) := by decide +kernel
theorem w_7 {a0 : Array Value} {Z : State} (hw : ∀ d ∈ tables_1, d.before a0 Z = true) : (Jvm.Cond.instanceMethod ({ cls := "java/lang/Object", name := "<init>", desc := "()V" } : Jvm.MethodName)).before a0 Z = true := hw _ (List.mem_of_getElem? (i := 7) rfl)
theorem w_8 {a0 : Array Value} {Z : State} (hw : ∀ d ∈ tables_1, d.before a0 Z = true) : (Jvm.Cond.code ({ cls := "java/lang/Object", name := "<init>", desc := "()V" } : Jvm.MethodName) object_method_1_code (1 : Nat) (Option.none : Option Jvm.ClassFile.FieldType)).before a0 Z = true := hw _ (List.mem_of_getElem? (i := 8) rfl)
theorem d1_4 : decode prog_49_method_1_code 4 = .ok (.aload_n 0, 1) := by decide +kernel
theorem d1_5 : decode prog_49_method_1_code 5 = .ok (.iload_n 1, 1) := by decide +kernel
theorem w_9 {a0 : Array Value} {Z : State} (hw : ∀ d ∈ tables_1, d.before a0 Z = true) : (Jvm.Cond.arrayClass Jvm.ClassFile.FieldType.int).before a0 Z = true := hw _ (List.mem_of_getElem? (i := 9) rfl)
theorem d1_6 : decode prog_49_method_1_code 6 = .ok (.newarray .int, 2) := by decide +kernel
theorem w_10 {a0 : Array Value} {Z : State} (hw : ∀ d ∈ tables_1, d.before a0 Z = true) : (Jvm.Cond.fieldLink "com/example/tandemcab/tandemcab/NodeQueue" (7 : Nat) "com/example/tandemcab/tandemcab/NodeQueue" "nodes" "[I").before a0 Z = true := hw _ (List.mem_of_getElem? (i := 10) rfl)
theorem w_11 {a0 : Array Value} {Z : State} (hw : ∀ d ∈ tables_1, d.before a0 Z = true) : (Jvm.Cond.laysFinal "com/example/tandemcab/tandemcab/NodeQueue" "com/example/tandemcab/tandemcab/NodeQueue" "nodes" "[I").before a0 Z = true := hw _ (List.mem_of_getElem? (i := 11) rfl)
theorem w_1 {a0 : Array Value} {Z : State} (hw : ∀ d ∈ tables_1, d.before a0 Z = true) : (Jvm.Cond.instantiable "com/example/tandemcab/tandemcab/NodeQueue" (5 : Nat)).before a0 Z = true := hw _ (List.mem_of_getElem? (i := 1) rfl)
theorem d1_8 : decode prog_49_method_1_code 8 = .ok (.putfield 7, 3) := by decide +kernel
theorem w_14 {a0 : Array Value} {Z : State} (hw : ∀ d ∈ tables_1, d.before a0 Z = true) : (Jvm.Cond.laysFinal "com/example/tandemcab/tandemcab/NodeQueue" "com/example/tandemcab/tandemcab/NodeQueue" "seconds" "[D").before a0 Z = true := hw _ (List.mem_of_getElem? (i := 14) rfl)
theorem sn_0 {a0 : Array Value} {Z : State} (hw : ∀ d ∈ tables_1, d.before a0 Z = true) : Jvm.RoadKit.slotOf Z "com/example/tandemcab/tandemcab/NodeQueue" "seconds" "[D" ≠ Jvm.RoadKit.slotOf Z "com/example/tandemcab/tandemcab/NodeQueue" "nodes" "[I" := slot_ne (Or.inr (w_14 hw)) (Or.inr (w_11 hw)) (by decide) (t := (.array .double)) (t' := (.array .int)) (by decide) (by decide)
theorem w_16 {a0 : Array Value} {Z : State} (hw : ∀ d ∈ tables_1, d.before a0 Z = true) : (Jvm.Cond.laysFinal "com/example/tandemcab/tandemcab/NodeQueue" "com/example/tandemcab/tandemcab/NodeQueue" "metres" "[D").before a0 Z = true := hw _ (List.mem_of_getElem? (i := 16) rfl)
theorem sn_1 {a0 : Array Value} {Z : State} (hw : ∀ d ∈ tables_1, d.before a0 Z = true) : Jvm.RoadKit.slotOf Z "com/example/tandemcab/tandemcab/NodeQueue" "metres" "[D" ≠ Jvm.RoadKit.slotOf Z "com/example/tandemcab/tandemcab/NodeQueue" "nodes" "[I" := slot_ne (Or.inr (w_16 hw)) (Or.inr (w_11 hw)) (by decide) (t := (.array .double)) (t' := (.array .int)) (by decide) (by decide)
theorem w_18 {a0 : Array Value} {Z : State} (hw : ∀ d ∈ tables_1, d.before a0 Z = true) : (Jvm.Cond.laysFinal "com/example/tandemcab/tandemcab/NodeQueue" "com/example/tandemcab/tandemcab/NodeQueue" "position" "[I").before a0 Z = true := hw _ (List.mem_of_getElem? (i := 18) rfl)
theorem sn_2 {a0 : Array Value} {Z : State} (hw : ∀ d ∈ tables_1, d.before a0 Z = true) : Jvm.RoadKit.slotOf Z "com/example/tandemcab/tandemcab/NodeQueue" "position" "[I" ≠ Jvm.RoadKit.slotOf Z "com/example/tandemcab/tandemcab/NodeQueue" "nodes" "[I" := slot_ne (Or.inr (w_18 hw)) (Or.inr (w_11 hw)) (by decide) (t := (.array .int)) (t' := (.array .int)) (by decide) (by decide)
theorem w_25 {a0 : Array Value} {Z : State} (hw : ∀ d ∈ tables_1, d.before a0 Z = true) : (Jvm.Cond.lays "com/example/tandemcab/tandemcab/NodeQueue" "com/example/tandemcab/tandemcab/NodeQueue" "size" "I").before a0 Z = true := hw _ (List.mem_of_getElem? (i := 25) rfl)
theorem sn_3 {a0 : Array Value} {Z : State} (hw : ∀ d ∈ tables_1, d.before a0 Z = true) : Jvm.RoadKit.slotOf Z "com/example/tandemcab/tandemcab/NodeQueue" "size" "I" ≠ Jvm.RoadKit.slotOf Z "com/example/tandemcab/tandemcab/NodeQueue" "nodes" "[I" := slot_ne (Or.inl (w_25 hw)) (Or.inr (w_11 hw)) (by decide) (t := .int) (t' := (.array .int)) (by decide) (by decide)
theorem d1_11 : decode prog_49_method_1_code 11 = .ok (.aload_n 0, 1) := by decide +kernel
theorem d1_12 : decode prog_49_method_1_code 12 = .ok (.iload_n 1, 1) := by decide +kernel
theorem w_12 {a0 : Array Value} {Z : State} (hw : ∀ d ∈ tables_1, d.before a0 Z = true) : (Jvm.Cond.arrayClass Jvm.ClassFile.FieldType.double).before a0 Z = true := hw _ (List.mem_of_getElem? (i := 12) rfl)
theorem d1_13 : decode prog_49_method_1_code 13 = .ok (.newarray .double, 2) := by decide +kernel
theorem w_13 {a0 : Array Value} {Z : State} (hw : ∀ d ∈ tables_1, d.before a0 Z = true) : (Jvm.Cond.fieldLink "com/example/tandemcab/tandemcab/NodeQueue" (13 : Nat) "com/example/tandemcab/tandemcab/NodeQueue" "seconds" "[D").before a0 Z = true := hw _ (List.mem_of_getElem? (i := 13) rfl)
theorem d1_15 : decode prog_49_method_1_code 15 = .ok (.putfield 13, 3) := by decide +kernel
theorem sn_4 {a0 : Array Value} {Z : State} (hw : ∀ d ∈ tables_1, d.before a0 Z = true) : Jvm.RoadKit.slotOf Z "com/example/tandemcab/tandemcab/NodeQueue" "nodes" "[I" ≠ Jvm.RoadKit.slotOf Z "com/example/tandemcab/tandemcab/NodeQueue" "seconds" "[D" := slot_ne (Or.inr (w_11 hw)) (Or.inr (w_14 hw)) (by decide) (t := (.array .int)) (t' := (.array .double)) (by decide) (by decide)
theorem sn_5 {a0 : Array Value} {Z : State} (hw : ∀ d ∈ tables_1, d.before a0 Z = true) : Jvm.RoadKit.slotOf Z "com/example/tandemcab/tandemcab/NodeQueue" "metres" "[D" ≠ Jvm.RoadKit.slotOf Z "com/example/tandemcab/tandemcab/NodeQueue" "seconds" "[D" := slot_ne (Or.inr (w_16 hw)) (Or.inr (w_14 hw)) (by decide) (t := (.array .double)) (t' := (.array .double)) (by decide) (by decide)
theorem sn_6 {a0 : Array Value} {Z : State} (hw : ∀ d ∈ tables_1, d.before a0 Z = true) : Jvm.RoadKit.slotOf Z "com/example/tandemcab/tandemcab/NodeQueue" "position" "[I" ≠ Jvm.RoadKit.slotOf Z "com/example/tandemcab/tandemcab/NodeQueue" "seconds" "[D" := slot_ne (Or.inr (w_18 hw)) (Or.inr (w_14 hw)) (by decide) (t := (.array .int)) (t' := (.array .double)) (by decide) (by decide)
theorem sn_7 {a0 : Array Value} {Z : State} (hw : ∀ d ∈ tables_1, d.before a0 Z = true) : Jvm.RoadKit.slotOf Z "com/example/tandemcab/tandemcab/NodeQueue" "size" "I" ≠ Jvm.RoadKit.slotOf Z "com/example/tandemcab/tandemcab/NodeQueue" "seconds" "[D" := slot_ne (Or.inl (w_25 hw)) (Or.inr (w_14 hw)) (by decide) (t := .int) (t' := (.array .double)) (by decide) (by decide)
theorem d1_18 : decode prog_49_method_1_code 18 = .ok (.aload_n 0, 1) := by decide +kernel
theorem d1_19 : decode prog_49_method_1_code 19 = .ok (.iload_n 1, 1) := by decide +kernel
theorem d1_20 : decode prog_49_method_1_code 20 = .ok (.newarray .double, 2) := by decide +kernel
theorem w_15 {a0 : Array Value} {Z : State} (hw : ∀ d ∈ tables_1, d.before a0 Z = true) : (Jvm.Cond.fieldLink "com/example/tandemcab/tandemcab/NodeQueue" (17 : Nat) "com/example/tandemcab/tandemcab/NodeQueue" "metres" "[D").before a0 Z = true := hw _ (List.mem_of_getElem? (i := 15) rfl)
theorem d1_22 : decode prog_49_method_1_code 22 = .ok (.putfield 17, 3) := by decide +kernel
theorem sn_8 {a0 : Array Value} {Z : State} (hw : ∀ d ∈ tables_1, d.before a0 Z = true) : Jvm.RoadKit.slotOf Z "com/example/tandemcab/tandemcab/NodeQueue" "nodes" "[I" ≠ Jvm.RoadKit.slotOf Z "com/example/tandemcab/tandemcab/NodeQueue" "metres" "[D" := slot_ne (Or.inr (w_11 hw)) (Or.inr (w_16 hw)) (by decide) (t := (.array .int)) (t' := (.array .double)) (by decide) (by decide)
theorem sn_9 {a0 : Array Value} {Z : State} (hw : ∀ d ∈ tables_1, d.before a0 Z = true) : Jvm.RoadKit.slotOf Z "com/example/tandemcab/tandemcab/NodeQueue" "seconds" "[D" ≠ Jvm.RoadKit.slotOf Z "com/example/tandemcab/tandemcab/NodeQueue" "metres" "[D" := slot_ne (Or.inr (w_14 hw)) (Or.inr (w_16 hw)) (by decide) (t := (.array .double)) (t' := (.array .double)) (by decide) (by decide)
theorem sn_10 {a0 : Array Value} {Z : State} (hw : ∀ d ∈ tables_1, d.before a0 Z = true) : Jvm.RoadKit.slotOf Z "com/example/tandemcab/tandemcab/NodeQueue" "position" "[I" ≠ Jvm.RoadKit.slotOf Z "com/example/tandemcab/tandemcab/NodeQueue" "metres" "[D" := slot_ne (Or.inr (w_18 hw)) (Or.inr (w_16 hw)) (by decide) (t := (.array .int)) (t' := (.array .double)) (by decide) (by decide)
theorem sn_11 {a0 : Array Value} {Z : State} (hw : ∀ d ∈ tables_1, d.before a0 Z = true) : Jvm.RoadKit.slotOf Z "com/example/tandemcab/tandemcab/NodeQueue" "size" "I" ≠ Jvm.RoadKit.slotOf Z "com/example/tandemcab/tandemcab/NodeQueue" "metres" "[D" := slot_ne (Or.inl (w_25 hw)) (Or.inr (w_16 hw)) (by decide) (t := .int) (t' := (.array .double)) (by decide) (by decide)
theorem d1_25 : decode prog_49_method_1_code 25 = .ok (.aload_n 0, 1) := by decide +kernel
theorem d1_26 : decode prog_49_method_1_code 26 = .ok (.iload_n 1, 1) := by decide +kernel
theorem d1_27 : decode prog_49_method_1_code 27 = .ok (.newarray .int, 2) := by decide +kernel
theorem w_17 {a0 : Array Value} {Z : State} (hw : ∀ d ∈ tables_1, d.before a0 Z = true) : (Jvm.Cond.fieldLink "com/example/tandemcab/tandemcab/NodeQueue" (20 : Nat) "com/example/tandemcab/tandemcab/NodeQueue" "position" "[I").before a0 Z = true := hw _ (List.mem_of_getElem? (i := 17) rfl)
theorem d1_29 : decode prog_49_method_1_code 29 = .ok (.putfield 20, 3) := by decide +kernel
theorem sn_12 {a0 : Array Value} {Z : State} (hw : ∀ d ∈ tables_1, d.before a0 Z = true) : Jvm.RoadKit.slotOf Z "com/example/tandemcab/tandemcab/NodeQueue" "nodes" "[I" ≠ Jvm.RoadKit.slotOf Z "com/example/tandemcab/tandemcab/NodeQueue" "position" "[I" := slot_ne (Or.inr (w_11 hw)) (Or.inr (w_18 hw)) (by decide) (t := (.array .int)) (t' := (.array .int)) (by decide) (by decide)
theorem sn_13 {a0 : Array Value} {Z : State} (hw : ∀ d ∈ tables_1, d.before a0 Z = true) : Jvm.RoadKit.slotOf Z "com/example/tandemcab/tandemcab/NodeQueue" "seconds" "[D" ≠ Jvm.RoadKit.slotOf Z "com/example/tandemcab/tandemcab/NodeQueue" "position" "[I" := slot_ne (Or.inr (w_14 hw)) (Or.inr (w_18 hw)) (by decide) (t := (.array .double)) (t' := (.array .int)) (by decide) (by decide)
theorem sn_14 {a0 : Array Value} {Z : State} (hw : ∀ d ∈ tables_1, d.before a0 Z = true) : Jvm.RoadKit.slotOf Z "com/example/tandemcab/tandemcab/NodeQueue" "metres" "[D" ≠ Jvm.RoadKit.slotOf Z "com/example/tandemcab/tandemcab/NodeQueue" "position" "[I" := slot_ne (Or.inr (w_16 hw)) (Or.inr (w_18 hw)) (by decide) (t := (.array .double)) (t' := (.array .int)) (by decide) (by decide)
theorem sn_15 {a0 : Array Value} {Z : State} (hw : ∀ d ∈ tables_1, d.before a0 Z = true) : Jvm.RoadKit.slotOf Z "com/example/tandemcab/tandemcab/NodeQueue" "size" "I" ≠ Jvm.RoadKit.slotOf Z "com/example/tandemcab/tandemcab/NodeQueue" "position" "[I" := slot_ne (Or.inl (w_25 hw)) (Or.inr (w_18 hw)) (by decide) (t := .int) (t' := (.array .int)) (by decide) (by decide)
theorem d1_32 : decode prog_49_method_1_code 32 = .ok (.return_, 1) := by decide +kernel
def Q1 (Z : State) (a1 : Addr) (u_nodes : Value) (u_seconds : Value) (u_metres : Value) (u_position : Value) (u_size : Int32) (h0 : Heap) (n0 : Nat) (v : Option Value) (h : Heap) (L : List Loc) : Prop := ∃ tn : Addr, ∃ ts : Addr, ∃ tm : Addr, ∃ tp : Addr, ∃ kn : ClassId, ∃ ks : ClassId, ∃ km : ClassId, ∃ kp : ClassId, v = none ∧ Fr n0 L ∧ Keep h0 h [a1] ∧ Fld Z h a1 "com/example/tandemcab/tandemcab/NodeQueue" "nodes" "[I" (.ref tn) ∧ Fld Z h a1 "com/example/tandemcab/tandemcab/NodeQueue" "seconds" "[D" (.ref ts) ∧ Fld Z h a1 "com/example/tandemcab/tandemcab/NodeQueue" "metres" "[D" (.ref tm) ∧ Fld Z h a1 "com/example/tandemcab/tandemcab/NodeQueue" "position" "[I" (.ref tp) ∧ Fld Z h a1 "com/example/tandemcab/tandemcab/NodeQueue" "size" "I" (.int u_size) ∧ h0.size ≤ tn ∧ n0 ≤ tn ∧ h0.size ≤ ts ∧ n0 ≤ ts ∧ h0.size ≤ tm ∧ n0 ≤ tm ∧ h0.size ≤ tp ∧ n0 ≤ tp ∧ tn ≠ ts ∧ tn ≠ tm ∧ tn ≠ tp ∧ ts ≠ tm ∧ ts ≠ tp ∧ tm ≠ tp ∧ (Arv Z h tn kn .int (3 : Int32) [(.int 0), (.int 0), (.int 0)] (.int 0)) ∧ (Arv Z h ts ks .double (3 : Int32) [(.double 0), (.double 0), (.double 0)] (.double 0)) ∧ (Arv Z h tm km .double (3 : Int32) [(.double 0), (.double 0), (.double 0)] (.double 0)) ∧ (Arv Z h tp kp .int (3 : Int32) [(.int 0), (.int 0), (.int 0)] (.int 0))
set_option maxRecDepth 65536 in
set_option maxHeartbeats 40000000 in
theorem rm1 (l : Launch) (Z : State) (a0 : Array Value) (hw : ∀ d ∈ tables_1, d.before a0 Z = true) (wsC : List Jvm.Cond) (a1 : Addr) (u_nodes : Value) (u_seconds : Value) (u_metres : Value) (u_position : Value) (u_size : Int32) (h0 : Heap) (n0 : Nat) (Z0 : n0 ≤ h0.size) (E_a1 : Exa Z h0 a1 "com/example/tandemcab/tandemcab/NodeQueue") (g_a1 : n0 ≤ a1) (F_a1_nodes : Fld Z h0 a1 "com/example/tandemcab/tandemcab/NodeQueue" "nodes" "[I" u_nodes) (F_a1_seconds : Fld Z h0 a1 "com/example/tandemcab/tandemcab/NodeQueue" "seconds" "[D" u_seconds) (F_a1_metres : Fld Z h0 a1 "com/example/tandemcab/tandemcab/NodeQueue" "metres" "[D" u_metres) (F_a1_position : Fld Z h0 a1 "com/example/tandemcab/tandemcab/NodeQueue" "position" "[I" u_position) (F_a1_size : Fld Z h0 a1 "com/example/tandemcab/tandemcab/NodeQueue" "size" "I" (.int u_size)) :
    MetFree l (⟨"com/example/tandemcab/tandemcab/NodeQueue", "<init>", "(I)V"⟩ : MethodName) (head1 (Jvm.Cond.code (⟨"com/example/tandemcab/tandemcab/NodeQueue", "<init>", "(I)V"⟩ : MethodName) prog_49_method_1_code 2 none :: wsC) ({ frames := 1, cells := 4, slots := 12, locals := 12 } : Room)) (fun a U => a = #[(.ref a1), (.int 3)] ∧ Z.Warmed39 U.vm ∧ U.heap = h0) (fun _ _ _ _ _ => True) (fun _ U o U' => ∃ v L, o = .returned v ∧ Q1 Z a1 u_nodes u_seconds u_metres u_position u_size h0 n0 v U'.heap L ∧ FrameEnd U o U' L ({ frames := 1, cells := 4, slots := 12, locals := 12 } : Room).cells ({ frames := 1, cells := 4, slots := 12, locals := 12 } : Room).slots) := by
  refine MetFree.of_bodySF (plainFor_of_name pn_0) hisR ?_
  intro p e s m args below meth c s₁ Bd hml0 hP hK
  obtain ⟨rfl, hZ, hh⟩ := hP
  have hx := Bd.exec
  have hby := Bd.bytes
  have hml : c.maxLocals = 2 := hml0
  have hown : s.vm.findClass "com/example/tandemcab/tandemcab/NodeQueue" = some m.cls := findClass_of_methodNamed Bd.named
  have hnm := (name_of_methodNamed Bd.named Bd.method).1
  have X0 : Stand p l e ({ frames := 1, cells := 4, slots := 12, locals := 12 } : Room) s m #[(.ref a1), (.int 3)] below meth c s₁ [] 0 0 := Stand.of_body Bd
  have e0 : s₁.heap = h0 := by rw [← hh, Bd.state]; rfl
  have NF := Fr.nil n0
  have KP : Keep h0 h0 [a1] := Keep.refl h0 _
  refine WP.go ?_
  refine WP.cast (ef_1 m a1) ?_
  refine WP.name ?_
  intro G hG
  refine WP.st (T' := s₁) (f' := (mkF m 1 #[.val (.ref a1), .val (.int 3)] [(.ref a1)])) (fun t k => ?_) ?_
  · refine XS.aloadN X0.here hx rfl (hb hby d1_0) rfl rfl ?_
    exact k
  obtain ⟨T6, X6, e6, st6⟩ := initO X0 hx hZ hown (w_6 hw) (w_7 hw) (w_8 hw) e0 (g := (mkF m 1 #[.val (.ref a1), .val (.int 3)] [(.ref a1)])) rfl (by rw [hml]; rfl) rfl (hb hby d1_1) (by decide) (W := 0) (by show 2 * 0 + _ ≤ _; exact Nat.le_of_eq rfl) (by decide)
  refine WP.st st6 ?_
  clear st6
  show WP p.tables e below _ T6 (mkF m 4 #[.val (.ref a1), .val (.int 3)] [])
  refine WP.st (T' := T6) (f' := (mkF m 6 #[.val (.ref a1), .val (.int 3)] [(.int 3), (.ref a1)])) (fun t k => ?_) ?_
  · refine XS.aloadN X6.here hx rfl (hb hby d1_4) rfl rfl ?_
    refine XS.iloadN X6.here hx rfl (hb hby d1_5) rfl ?_
    exact k
  obtain ⟨T7, h7, k7, X7, e7, E7, A7, st7⟩ := newP (aty := .int) X6 hx hZ (w_9 hw) e6 (g := (mkF m 6 #[.val (.ref a1), .val (.int 3)] [(.int 3), (.ref a1)])) rfl (hb hby d1_6) rfl (by decide) (cap := 3) (by decide) (by decide) (by decide) (by decide)
  obtain ⟨b7, g7⟩ : ∃ z, z = h0.size := ⟨_, rfl⟩
  rw [← g7] at A7 st7
  refine WP.st st7 ?_
  clear st7
  have ne_a1_b7 : a1 ≠ b7 := Nat.ne_of_lt (Nat.lt_of_lt_of_le E_a1.lt (Nat.le_of_eq g7.symm))
  have g_b7 : n0 ≤ b7 := Nat.le_trans Z0 (Nat.le_of_eq g7.symm)
  have sz_b7 : h0.size ≤ b7 := Nat.le_trans KP.1 (Nat.le_of_eq g7.symm)
  replace E_a1 := E_a1.ext E7
  replace F_a1_nodes := F_a1_nodes.ext E7
  replace F_a1_seconds := F_a1_seconds.ext E7
  replace F_a1_metres := F_a1_metres.ext E7
  replace F_a1_position := F_a1_position.ext E7
  replace F_a1_size := F_a1_size.ext E7
  replace Z0 := Nat.le_trans Z0 E7.1
  replace KP := KP.ext E7
  have V_b7 : Arv Z h7 b7 k7 .int (3 : Int32) [(.int (0 : Int32)), (.int (0 : Int32)), (.int (0 : Int32))] (.int (0 : Int32)) := (Arv.new A7 (by decide)).pad (pad_rep [] (.int (0 : Int32)) 3)
  show WP p.tables e below _ T7 (mkF m 8 #[.val (.ref a1), .val (.int 3)] [(.ref b7), (.ref a1)])
  obtain ⟨T8, h8, X8, e8, W8, st8⟩ := putF X7 hx hZ hown (host := "") (Or.inl (w_10 hw)) Via.refl e7 F_a1_nodes E_a1 (Or.inr ⟨(w_11 hw), rfl, hnm⟩) (w_1 hw) (ty := (.array .int)) (by decide) rfl rfl (g := (mkF m 8 #[.val (.ref a1), .val (.int 3)] [(.ref b7), (.ref a1)])) rfl rfl (hb hby d1_8)
  refine WP.st st8 ?_
  clear st8
  replace E_a1 := E_a1.wr W8
  replace F_a1_nodes := F_a1_nodes.same W8
  replace F_a1_seconds := F_a1_seconds.other W8 (Or.inr (sn_0 hw))
  replace F_a1_metres := F_a1_metres.other W8 (Or.inr (sn_1 hw))
  replace F_a1_position := F_a1_position.other W8 (Or.inr (sn_2 hw))
  replace F_a1_size := F_a1_size.other W8 (Or.inr (sn_3 hw))
  replace V_b7 := V_b7.other W8 (Ne.symm ne_a1_b7)
  replace Z0 := Nat.le_trans Z0 (Keep.of_wr W8).1
  replace KP := KP.wr W8 (Or.inl (List.mem_of_getElem? (i := 0) rfl))
  replace NF := Fr.snoc X8 NF g_a1
  clear W8
  show WP p.tables e below _ T8 (mkF m 11 #[.val (.ref a1), .val (.int 3)] [])
  refine WP.st (T' := T8) (f' := (mkF m 13 #[.val (.ref a1), .val (.int 3)] [(.int 3), (.ref a1)])) (fun t k => ?_) ?_
  · refine XS.aloadN X8.here hx rfl (hb hby d1_11) rfl rfl ?_
    refine XS.iloadN X8.here hx rfl (hb hby d1_12) rfl ?_
    exact k
  obtain ⟨T9, h9, k9, X9, e9, E9, A9, st9⟩ := newP (aty := .double) X8 hx hZ (w_12 hw) e8 (g := (mkF m 13 #[.val (.ref a1), .val (.int 3)] [(.int 3), (.ref a1)])) rfl (hb hby d1_13) rfl (by decide) (cap := 3) (by decide) (by decide) (by decide) (by decide)
  obtain ⟨b9, g9⟩ : ∃ z, z = h8.size := ⟨_, rfl⟩
  rw [← g9] at A9 st9
  refine WP.st st9 ?_
  clear st9
  have ne_a1_b9 : a1 ≠ b9 := Nat.ne_of_lt (Nat.lt_of_lt_of_le E_a1.lt (Nat.le_of_eq g9.symm))
  have ne_b7_b9 : b7 ≠ b9 := Nat.ne_of_lt (Nat.lt_of_lt_of_le V_b7.lt (Nat.le_of_eq g9.symm))
  have g_b9 : n0 ≤ b9 := Nat.le_trans Z0 (Nat.le_of_eq g9.symm)
  have sz_b9 : h0.size ≤ b9 := Nat.le_trans KP.1 (Nat.le_of_eq g9.symm)
  replace E_a1 := E_a1.ext E9
  replace F_a1_nodes := F_a1_nodes.ext E9
  replace F_a1_seconds := F_a1_seconds.ext E9
  replace F_a1_metres := F_a1_metres.ext E9
  replace F_a1_position := F_a1_position.ext E9
  replace F_a1_size := F_a1_size.ext E9
  replace V_b7 := V_b7.ext E9
  replace Z0 := Nat.le_trans Z0 E9.1
  replace KP := KP.ext E9
  have V_b9 : Arv Z h9 b9 k9 .double (3 : Int32) [(.double 0), (.double 0), (.double 0)] (.double 0) := (Arv.new A9 (by decide)).pad (pad_rep [] (.double 0) 3)
  show WP p.tables e below _ T9 (mkF m 15 #[.val (.ref a1), .val (.int 3)] [(.ref b9), (.ref a1)])
  obtain ⟨T10, h10, X10, e10, W10, st10⟩ := putF X9 hx hZ hown (host := "") (Or.inl (w_13 hw)) Via.refl e9 F_a1_seconds E_a1 (Or.inr ⟨(w_14 hw), rfl, hnm⟩) (w_1 hw) (ty := (.array .double)) (by decide) rfl rfl (g := (mkF m 15 #[.val (.ref a1), .val (.int 3)] [(.ref b9), (.ref a1)])) rfl rfl (hb hby d1_15)
  refine WP.st st10 ?_
  clear st10
  replace E_a1 := E_a1.wr W10
  replace F_a1_nodes := F_a1_nodes.other W10 (Or.inr (sn_4 hw))
  replace F_a1_seconds := F_a1_seconds.same W10
  replace F_a1_metres := F_a1_metres.other W10 (Or.inr (sn_5 hw))
  replace F_a1_position := F_a1_position.other W10 (Or.inr (sn_6 hw))
  replace F_a1_size := F_a1_size.other W10 (Or.inr (sn_7 hw))
  replace V_b7 := V_b7.other W10 (Ne.symm ne_a1_b7)
  replace V_b9 := V_b9.other W10 (Ne.symm ne_a1_b9)
  replace Z0 := Nat.le_trans Z0 (Keep.of_wr W10).1
  replace KP := KP.wr W10 (Or.inl (List.mem_of_getElem? (i := 0) rfl))
  replace NF := Fr.snoc X10 NF g_a1
  clear W10
  show WP p.tables e below _ T10 (mkF m 18 #[.val (.ref a1), .val (.int 3)] [])
  refine WP.st (T' := T10) (f' := (mkF m 20 #[.val (.ref a1), .val (.int 3)] [(.int 3), (.ref a1)])) (fun t k => ?_) ?_
  · refine XS.aloadN X10.here hx rfl (hb hby d1_18) rfl rfl ?_
    refine XS.iloadN X10.here hx rfl (hb hby d1_19) rfl ?_
    exact k
  obtain ⟨T11, h11, k11, X11, e11, E11, A11, st11⟩ := newP (aty := .double) X10 hx hZ (w_12 hw) e10 (g := (mkF m 20 #[.val (.ref a1), .val (.int 3)] [(.int 3), (.ref a1)])) rfl (hb hby d1_20) rfl (by decide) (cap := 3) (by decide) (by decide) (by decide) (by decide)
  obtain ⟨b11, g11⟩ : ∃ z, z = h10.size := ⟨_, rfl⟩
  rw [← g11] at A11 st11
  refine WP.st st11 ?_
  clear st11
  have ne_a1_b11 : a1 ≠ b11 := Nat.ne_of_lt (Nat.lt_of_lt_of_le E_a1.lt (Nat.le_of_eq g11.symm))
  have ne_b7_b11 : b7 ≠ b11 := Nat.ne_of_lt (Nat.lt_of_lt_of_le V_b7.lt (Nat.le_of_eq g11.symm))
  have ne_b9_b11 : b9 ≠ b11 := Nat.ne_of_lt (Nat.lt_of_lt_of_le V_b9.lt (Nat.le_of_eq g11.symm))
  have g_b11 : n0 ≤ b11 := Nat.le_trans Z0 (Nat.le_of_eq g11.symm)
  have sz_b11 : h0.size ≤ b11 := Nat.le_trans KP.1 (Nat.le_of_eq g11.symm)
  replace E_a1 := E_a1.ext E11
  replace F_a1_nodes := F_a1_nodes.ext E11
  replace F_a1_seconds := F_a1_seconds.ext E11
  replace F_a1_metres := F_a1_metres.ext E11
  replace F_a1_position := F_a1_position.ext E11
  replace F_a1_size := F_a1_size.ext E11
  replace V_b7 := V_b7.ext E11
  replace V_b9 := V_b9.ext E11
  replace Z0 := Nat.le_trans Z0 E11.1
  replace KP := KP.ext E11
  have V_b11 : Arv Z h11 b11 k11 .double (3 : Int32) [(.double 0), (.double 0), (.double 0)] (.double 0) := (Arv.new A11 (by decide)).pad (pad_rep [] (.double 0) 3)
  show WP p.tables e below _ T11 (mkF m 22 #[.val (.ref a1), .val (.int 3)] [(.ref b11), (.ref a1)])
  obtain ⟨T12, h12, X12, e12, W12, st12⟩ := putF X11 hx hZ hown (host := "") (Or.inl (w_15 hw)) Via.refl e11 F_a1_metres E_a1 (Or.inr ⟨(w_16 hw), rfl, hnm⟩) (w_1 hw) (ty := (.array .double)) (by decide) rfl rfl (g := (mkF m 22 #[.val (.ref a1), .val (.int 3)] [(.ref b11), (.ref a1)])) rfl rfl (hb hby d1_22)
  refine WP.st st12 ?_
  clear st12
  replace E_a1 := E_a1.wr W12
  replace F_a1_nodes := F_a1_nodes.other W12 (Or.inr (sn_8 hw))
  replace F_a1_seconds := F_a1_seconds.other W12 (Or.inr (sn_9 hw))
  replace F_a1_metres := F_a1_metres.same W12
  replace F_a1_position := F_a1_position.other W12 (Or.inr (sn_10 hw))
  replace F_a1_size := F_a1_size.other W12 (Or.inr (sn_11 hw))
  replace V_b7 := V_b7.other W12 (Ne.symm ne_a1_b7)
  replace V_b9 := V_b9.other W12 (Ne.symm ne_a1_b9)
  replace V_b11 := V_b11.other W12 (Ne.symm ne_a1_b11)
  replace Z0 := Nat.le_trans Z0 (Keep.of_wr W12).1
  replace KP := KP.wr W12 (Or.inl (List.mem_of_getElem? (i := 0) rfl))
  replace NF := Fr.snoc X12 NF g_a1
  clear W12
  show WP p.tables e below _ T12 (mkF m 25 #[.val (.ref a1), .val (.int 3)] [])
  refine WP.st (T' := T12) (f' := (mkF m 27 #[.val (.ref a1), .val (.int 3)] [(.int 3), (.ref a1)])) (fun t k => ?_) ?_
  · refine XS.aloadN X12.here hx rfl (hb hby d1_25) rfl rfl ?_
    refine XS.iloadN X12.here hx rfl (hb hby d1_26) rfl ?_
    exact k
  obtain ⟨T13, h13, k13, X13, e13, E13, A13, st13⟩ := newP (aty := .int) X12 hx hZ (w_9 hw) e12 (g := (mkF m 27 #[.val (.ref a1), .val (.int 3)] [(.int 3), (.ref a1)])) rfl (hb hby d1_27) rfl (by decide) (cap := 3) (by decide) (by decide) (by decide) (by decide)
  obtain ⟨b13, g13⟩ : ∃ z, z = h12.size := ⟨_, rfl⟩
  rw [← g13] at A13 st13
  refine WP.st st13 ?_
  clear st13
  have ne_a1_b13 : a1 ≠ b13 := Nat.ne_of_lt (Nat.lt_of_lt_of_le E_a1.lt (Nat.le_of_eq g13.symm))
  have ne_b7_b13 : b7 ≠ b13 := Nat.ne_of_lt (Nat.lt_of_lt_of_le V_b7.lt (Nat.le_of_eq g13.symm))
  have ne_b9_b13 : b9 ≠ b13 := Nat.ne_of_lt (Nat.lt_of_lt_of_le V_b9.lt (Nat.le_of_eq g13.symm))
  have ne_b11_b13 : b11 ≠ b13 := Nat.ne_of_lt (Nat.lt_of_lt_of_le V_b11.lt (Nat.le_of_eq g13.symm))
  have g_b13 : n0 ≤ b13 := Nat.le_trans Z0 (Nat.le_of_eq g13.symm)
  have sz_b13 : h0.size ≤ b13 := Nat.le_trans KP.1 (Nat.le_of_eq g13.symm)
  replace E_a1 := E_a1.ext E13
  replace F_a1_nodes := F_a1_nodes.ext E13
  replace F_a1_seconds := F_a1_seconds.ext E13
  replace F_a1_metres := F_a1_metres.ext E13
  replace F_a1_position := F_a1_position.ext E13
  replace F_a1_size := F_a1_size.ext E13
  replace V_b7 := V_b7.ext E13
  replace V_b9 := V_b9.ext E13
  replace V_b11 := V_b11.ext E13
  replace Z0 := Nat.le_trans Z0 E13.1
  replace KP := KP.ext E13
  have V_b13 : Arv Z h13 b13 k13 .int (3 : Int32) [(.int (0 : Int32)), (.int (0 : Int32)), (.int (0 : Int32))] (.int (0 : Int32)) := (Arv.new A13 (by decide)).pad (pad_rep [] (.int (0 : Int32)) 3)
  show WP p.tables e below _ T13 (mkF m 29 #[.val (.ref a1), .val (.int 3)] [(.ref b13), (.ref a1)])
  obtain ⟨T14, h14, X14, e14, W14, st14⟩ := putF X13 hx hZ hown (host := "") (Or.inl (w_17 hw)) Via.refl e13 F_a1_position E_a1 (Or.inr ⟨(w_18 hw), rfl, hnm⟩) (w_1 hw) (ty := (.array .int)) (by decide) rfl rfl (g := (mkF m 29 #[.val (.ref a1), .val (.int 3)] [(.ref b13), (.ref a1)])) rfl rfl (hb hby d1_29)
  refine WP.st st14 ?_
  clear st14
  replace E_a1 := E_a1.wr W14
  replace F_a1_nodes := F_a1_nodes.other W14 (Or.inr (sn_12 hw))
  replace F_a1_seconds := F_a1_seconds.other W14 (Or.inr (sn_13 hw))
  replace F_a1_metres := F_a1_metres.other W14 (Or.inr (sn_14 hw))
  replace F_a1_position := F_a1_position.same W14
  replace F_a1_size := F_a1_size.other W14 (Or.inr (sn_15 hw))
  replace V_b7 := V_b7.other W14 (Ne.symm ne_a1_b7)
  replace V_b9 := V_b9.other W14 (Ne.symm ne_a1_b9)
  replace V_b11 := V_b11.other W14 (Ne.symm ne_a1_b11)
  replace V_b13 := V_b13.other W14 (Ne.symm ne_a1_b13)
  replace Z0 := Nat.le_trans Z0 (Keep.of_wr W14).1
  replace KP := KP.wr W14 (Or.inl (List.mem_of_getElem? (i := 0) rfl))
  replace NF := Fr.snoc X14 NF g_a1
  clear W14
  show WP p.tables e below _ T14 (mkF m 32 #[.val (.ref a1), .val (.int 3)] [])
  subst hG
  obtain ⟨fs, hr, hrun, hended, hW, hsame⟩ := X14.leave (v := none) (fun _ => rfl)
  refine WP.fin ⟨_, _, ?_, hrun, hended, _, _, rfl, ?_, ⟨_, rfl⟩, hW, hsame.mono (by decide) (by decide)⟩
  · exact X14.returnOut hx Bd.returns (hb hby d1_32) hr
  · show Q1 Z a1 u_nodes u_seconds u_metres u_position u_size h0 n0 _ T14.heap _
    rw [e14]
    exact ⟨b7, b9, b11, b13, k7, k9, k11, k13, rfl, NF, KP, F_a1_nodes, F_a1_seconds, F_a1_metres, F_a1_position, F_a1_size, sz_b7, g_b7, sz_b9, g_b9, sz_b11, g_b11, sz_b13, g_b13, ne_b7_b9, ne_b7_b11, ne_b7_b13, ne_b9_b11, ne_b9_b13, ne_b11_b13, V_b7, V_b9, V_b11, V_b13⟩
theorem own_and3 (x : Int32) : (x &&& (3 : Int32)) = 0 ∨ (x &&& (3 : Int32)) = 1 ∨ (x &&& (3 : Int32)) = 2 ∨ (x &&& (3 : Int32)) = 3 := by
  have h : (x &&& 3).toBitVec.toNat < 4 := by
    simp only [Int32.toBitVec_and, BitVec.toNat_and]
    exact Nat.lt_succ_of_le Nat.and_le_right
  have e : (x &&& 3) = Int32.ofNat (x &&& 3).toBitVec.toNat := by
    apply Int32.toBitVec_inj.mp
    show _ = BitVec.ofNat 32 _
    rw [BitVec.ofNat_toNat]; simp
  rw [e]
  exact (by decide +kernel : ∀ k : Fin 4, Int32.ofNat k.val = 0 ∨ Int32.ofNat k.val = 1 ∨ Int32.ofNat k.val = 2 ∨ Int32.ofNat k.val = 3) ⟨_, h⟩
theorem ef_0 (m : MethodId) (z0 : Int32) (z1 : Int32) (z2 : Int32) (z3 : Int32) (z4 : Int32) (z5 : Int32) : entryFrame m #[(.int z0), (.int z1), (.int z2), (.int z3), (.int z4), (.int z5)] maxLocals = mkF m 0 #[.val (.int z0), .val (.int z1), .val (.int z2), .val (.int z3), .val (.int z4), .val (.int z5), .unset, .unset, .unset, .unset, .unset, .unset] [] := by
  all_goals first | (simp [entryFrame, mkF, argsToLocals, Value.category, maxLocals]; done) | rfl
theorem pn_1 : plainName "com/example/tandemcab/tandemcab/NodeQueueClearPinLaw" = true := by first | (simp [plainName, overriddenIn]; done) | decide +kernel
theorem w_0 {a0 : Array Value} {Z : State} (hw : ∀ d ∈ tables_1, d.before a0 Z = true) : (Jvm.Cond.classLink "com/example/tandemcab/tandemcab/NodeQueueClearPinLaw" (7 : Nat) "com/example/tandemcab/tandemcab/NodeQueue").before a0 Z = true := hw _ (List.mem_of_getElem? (i := 0) rfl)
theorem w_2 {a0 : Array Value} {Z : State} (hw : ∀ d ∈ tables_1, d.before a0 Z = true) : (Jvm.Cond.initialized "com/example/tandemcab/tandemcab/NodeQueue").before a0 Z = true := hw _ (List.mem_of_getElem? (i := 2) rfl)
theorem w_3 {a0 : Array Value} {Z : State} (hw : ∀ d ∈ tables_1, d.before a0 Z = true) : (Jvm.Cond.methodLink "com/example/tandemcab/tandemcab/NodeQueueClearPinLaw" (9 : Nat) ({ cls := "com/example/tandemcab/tandemcab/NodeQueue", name := "<init>", desc := "(I)V" } : Jvm.MethodName)).before a0 Z = true := hw _ (List.mem_of_getElem? (i := 3) rfl)
theorem w_5 {a0 : Array Value} {Z : State} (hw : ∀ d ∈ tables_1, d.before a0 Z = true) : (Jvm.Cond.code ({ cls := "com/example/tandemcab/tandemcab/NodeQueue", name := "<init>", desc := "(I)V" } : Jvm.MethodName) prog_49_method_1_code (2 : Nat) (Option.none : Option Jvm.ClassFile.FieldType)).before a0 Z = true := hw _ (List.mem_of_getElem? (i := 5) rfl)
theorem pd_0 : parseMethodDescriptor "(I)V" = some ⟨[.int], none⟩ := by decide +kernel
theorem w_4 {a0 : Array Value} {Z : State} (hw : ∀ d ∈ tables_1, d.before a0 Z = true) : (Jvm.Cond.instanceMethod ({ cls := "com/example/tandemcab/tandemcab/NodeQueue", name := "<init>", desc := "(I)V" } : Jvm.MethodName)).before a0 Z = true := hw _ (List.mem_of_getElem? (i := 4) rfl)
theorem w_26 {a0 : Array Value} {Z : State} (hw : ∀ d ∈ tables_1, d.before a0 Z = true) : (Jvm.Cond.methodLink "com/example/tandemcab/tandemcab/NodeQueueClearPinLaw" (19 : Nat) ({ cls := "com/example/tandemcab/tandemcab/NodeQueue", name := "isEmpty", desc := "()Z" } : Jvm.MethodName)).before a0 Z = true := hw _ (List.mem_of_getElem? (i := 26) rfl)
theorem w_30 {a0 : Array Value} {Z : State} (hw : ∀ d ∈ tables_1, d.before a0 Z = true) : (Jvm.Cond.code ({ cls := "com/example/tandemcab/tandemcab/NodeQueue", name := "isEmpty", desc := "()Z" } : Jvm.MethodName) prog_49_method_2_code (1 : Nat) (Option.some Jvm.ClassFile.FieldType.boolean)).before a0 Z = true := hw _ (List.mem_of_getElem? (i := 30) rfl)
theorem pd_1 : parseMethodDescriptor "()Z" = some ⟨[], some .boolean⟩ := by decide +kernel
theorem w_29 {a0 : Array Value} {Z : State} (hw : ∀ d ∈ tables_1, d.before a0 Z = true) : (Jvm.Cond.selects "com/example/tandemcab/tandemcab/NodeQueue" ({ cls := "com/example/tandemcab/tandemcab/NodeQueue", name := "isEmpty", desc := "()Z" } : Jvm.MethodName) ({ cls := "com/example/tandemcab/tandemcab/NodeQueue", name := "isEmpty", desc := "()Z" } : Jvm.MethodName)).before a0 Z = true := hw _ (List.mem_of_getElem? (i := 29) rfl)
theorem w_27 {a0 : Array Value} {Z : State} (hw : ∀ d ∈ tables_1, d.before a0 Z = true) : (Jvm.Cond.declares ({ cls := "com/example/tandemcab/tandemcab/NodeQueue", name := "isEmpty", desc := "()Z" } : Jvm.MethodName)).before a0 Z = true := hw _ (List.mem_of_getElem? (i := 27) rfl)
theorem w_28 {a0 : Array Value} {Z : State} (hw : ∀ d ∈ tables_1, d.before a0 Z = true) : (Jvm.Cond.instanceMethod ({ cls := "com/example/tandemcab/tandemcab/NodeQueue", name := "isEmpty", desc := "()Z" } : Jvm.MethodName)).before a0 Z = true := hw _ (List.mem_of_getElem? (i := 28) rfl)
theorem w_31 {a0 : Array Value} {Z : State} (hw : ∀ d ∈ tables_1, d.before a0 Z = true) : (Jvm.Cond.constantDouble "com/example/tandemcab/tandemcab/NodeQueueClearPinLaw" (23 : Nat) (4617315517961601024 : UInt64)).before a0 Z = true := hw _ (List.mem_of_getElem? (i := 31) rfl)
theorem ef_7t2 (m : MethodId) (z0 : Addr) (z2 : UInt64) (z3 : UInt64) : entryFrame m #[(.ref z0), (.int 0), (.double z2), (.double z3), (.int 0)] 7 = mkF m 0 #[.val (.ref z0), .val (.int 0), .val (.double z2), .second, .val (.double z3), .second, .val (.int 0)] [] := by
  all_goals first | (simp [entryFrame, mkF, argsToLocals, Value.category]; done) | rfl
theorem d7_0 : decode prog_49_method_10_code 0 = .ok (.aload_n 0, 1) := by decide +kernel
theorem d7_1 : decode prog_49_method_10_code 1 = .ok (.getfield 7, 3) := by decide +kernel
theorem d7_4 : decode prog_49_method_10_code 4 = .ok (.iload 6, 2) := by decide +kernel
theorem d7_6 : decode prog_49_method_10_code 6 = .ok (.iload_n 1, 1) := by decide +kernel
theorem d7_7 : decode prog_49_method_10_code 7 = .ok (.iastore, 1) := by decide +kernel
theorem d7_8 : decode prog_49_method_10_code 8 = .ok (.aload_n 0, 1) := by decide +kernel
theorem d7_9 : decode prog_49_method_10_code 9 = .ok (.getfield 13, 3) := by decide +kernel
theorem d7_12 : decode prog_49_method_10_code 12 = .ok (.iload 6, 2) := by decide +kernel
theorem d7_14 : decode prog_49_method_10_code 14 = .ok (.dload_n 2, 1) := by decide +kernel
theorem d7_15 : decode prog_49_method_10_code 15 = .ok (.dastore, 1) := by decide +kernel
theorem d7_16 : decode prog_49_method_10_code 16 = .ok (.aload_n 0, 1) := by decide +kernel
theorem d7_17 : decode prog_49_method_10_code 17 = .ok (.getfield 17, 3) := by decide +kernel
theorem d7_20 : decode prog_49_method_10_code 20 = .ok (.iload 6, 2) := by decide +kernel
theorem d7_22 : decode prog_49_method_10_code 22 = .ok (.dload 4, 2) := by decide +kernel
theorem d7_24 : decode prog_49_method_10_code 24 = .ok (.dastore, 1) := by decide +kernel
theorem d7_25 : decode prog_49_method_10_code 25 = .ok (.aload_n 0, 1) := by decide +kernel
theorem d7_26 : decode prog_49_method_10_code 26 = .ok (.getfield 20, 3) := by decide +kernel
theorem d7_29 : decode prog_49_method_10_code 29 = .ok (.iload_n 1, 1) := by decide +kernel
theorem d7_30 : decode prog_49_method_10_code 30 = .ok (.iload 6, 2) := by decide +kernel
theorem d7_32 : decode prog_49_method_10_code 32 = .ok (.iconst 1, 1) := by decide +kernel
theorem d7_33 : decode prog_49_method_10_code 33 = .ok (.iadd, 1) := by decide +kernel
theorem d7_34 : decode prog_49_method_10_code 34 = .ok (.iastore, 1) := by decide +kernel
theorem d7_35 : decode prog_49_method_10_code 35 = .ok (.return_, 1) := by decide +kernel
def Q7t2 (Z : State) (a1 : Addr) (x1 : UInt64) (x2 : UInt64) (tn : Addr) (ts : Addr) (tm : Addr) (tp : Addr) (kn : ClassId) (ks : ClassId) (km : ClassId) (kp : ClassId) (nd0 : Value) (nd1 : Value) (nd2 : Value) (s0 : Value) (s1 : Value) (s2 : Value) (m0 : Value) (m1 : Value) (m2 : Value) (p0 : Value) (p1 : Value) (p2 : Value) (u_size : Int32) (h0 : Heap) (n0 : Nat) (v : Option Value) (h : Heap) (L : List Loc) : Prop := v = none ∧ Fr n0 L ∧ Keep h0 h [a1, tn, ts, tm, tp] ∧ Fld Z h a1 "com/example/tandemcab/tandemcab/NodeQueue" "nodes" "[I" (.ref tn) ∧ Fld Z h a1 "com/example/tandemcab/tandemcab/NodeQueue" "seconds" "[D" (.ref ts) ∧ Fld Z h a1 "com/example/tandemcab/tandemcab/NodeQueue" "metres" "[D" (.ref tm) ∧ Fld Z h a1 "com/example/tandemcab/tandemcab/NodeQueue" "position" "[I" (.ref tp) ∧ Fld Z h a1 "com/example/tandemcab/tandemcab/NodeQueue" "size" "I" (.int u_size) ∧ (Arv Z h tn kn .int (3 : Int32) [(.int 0), nd1, nd2] (.int 0)) ∧ (Arv Z h ts ks .double (3 : Int32) [(.double x1), s1, s2] (.double 0)) ∧ (Arv Z h tm km .double (3 : Int32) [(.double x2), m1, m2] (.double 0)) ∧ (Arv Z h tp kp .int (3 : Int32) [(.int 1), p1, p2] (.int 0))
set_option maxRecDepth 65536 in
set_option maxHeartbeats 40000000 in
theorem rm7t2 (l : Launch) (Z : State) (a0 : Array Value) (hw : ∀ d ∈ tables_1, d.before a0 Z = true) (wsC : List Jvm.Cond) (a1 : Addr) (x1 : UInt64) (x2 : UInt64) (tn : Addr) (ts : Addr) (tm : Addr) (tp : Addr) (kn : ClassId) (ks : ClassId) (km : ClassId) (kp : ClassId) (nd0 : Value) (nd1 : Value) (nd2 : Value) (s0 : Value) (s1 : Value) (s2 : Value) (m0 : Value) (m1 : Value) (m2 : Value) (p0 : Value) (p1 : Value) (p2 : Value) (u_size : Int32) (h0 : Heap) (n0 : Nat) (Z0 : n0 ≤ h0.size) (E_a1 : Exa Z h0 a1 "com/example/tandemcab/tandemcab/NodeQueue") (F_a1_nodes : Fld Z h0 a1 "com/example/tandemcab/tandemcab/NodeQueue" "nodes" "[I" (.ref tn)) (F_a1_seconds : Fld Z h0 a1 "com/example/tandemcab/tandemcab/NodeQueue" "seconds" "[D" (.ref ts)) (F_a1_metres : Fld Z h0 a1 "com/example/tandemcab/tandemcab/NodeQueue" "metres" "[D" (.ref tm)) (F_a1_position : Fld Z h0 a1 "com/example/tandemcab/tandemcab/NodeQueue" "position" "[I" (.ref tp)) (F_a1_size : Fld Z h0 a1 "com/example/tandemcab/tandemcab/NodeQueue" "size" "I" (.int u_size)) (V_tn : Arv Z h0 tn kn .int (3 : Int32) [nd0, nd1, nd2] (.int 0)) (V_ts : Arv Z h0 ts ks .double (3 : Int32) [s0, s1, s2] (.double 0)) (V_tm : Arv Z h0 tm km .double (3 : Int32) [m0, m1, m2] (.double 0)) (V_tp : Arv Z h0 tp kp .int (3 : Int32) [p0, p1, p2] (.int 0)) (g_a1 : n0 ≤ a1) (g_tn : n0 ≤ tn) (g_ts : n0 ≤ ts) (g_tm : n0 ≤ tm) (g_tp : n0 ≤ tp) (ne_a1_tn : a1 ≠ tn) (ne_a1_ts : a1 ≠ ts) (ne_a1_tm : a1 ≠ tm) (ne_a1_tp : a1 ≠ tp) (ne_tn_ts : tn ≠ ts) (ne_tn_tm : tn ≠ tm) (ne_tn_tp : tn ≠ tp) (ne_ts_tm : ts ≠ tm) (ne_ts_tp : ts ≠ tp) (ne_tm_tp : tm ≠ tp) :
    MetFree l (⟨"com/example/tandemcab/tandemcab/NodeQueue", "place", "(IDDI)V"⟩ : MethodName) (head1 (Jvm.Cond.code (⟨"com/example/tandemcab/tandemcab/NodeQueue", "place", "(IDDI)V"⟩ : MethodName) prog_49_method_10_code 7 none :: wsC) ({ frames := 0, cells := 0, slots := 0, locals := 0 } : Room)) (fun a U => a = #[(.ref a1), (.int 0), (.double x1), (.double x2), (.int 0)] ∧ Z.Warmed39 U.vm ∧ U.heap = h0) (fun _ _ _ _ _ => True) (fun _ U o U' => ∃ v L, o = .returned v ∧ Q7t2 Z a1 x1 x2 tn ts tm tp kn ks km kp nd0 nd1 nd2 s0 s1 s2 m0 m1 m2 p0 p1 p2 u_size h0 n0 v U'.heap L ∧ FrameEnd U o U' L ({ frames := 0, cells := 0, slots := 0, locals := 0 } : Room).cells ({ frames := 0, cells := 0, slots := 0, locals := 0 } : Room).slots) := by
  refine MetFree.of_bodySF (plainFor_of_name pn_0) hisR ?_
  intro p e s m args below meth c s₁ Bd hml0 hP hK
  obtain ⟨rfl, hZ, hh⟩ := hP
  have hx := Bd.exec
  have hby := Bd.bytes
  have hml : c.maxLocals = 7 := hml0
  have hown : s.vm.findClass "com/example/tandemcab/tandemcab/NodeQueue" = some m.cls := findClass_of_methodNamed Bd.named
  have hnm := (name_of_methodNamed Bd.named Bd.method).1
  have X0 : Stand p l e ({ frames := 0, cells := 0, slots := 0, locals := 0 } : Room) s m #[(.ref a1), (.int 0), (.double x1), (.double x2), (.int 0)] below meth c s₁ [] 0 0 := Stand.of_body Bd
  have e0 : s₁.heap = h0 := by rw [← hh, Bd.state]; rfl
  have NF := Fr.nil n0
  have KP : Keep h0 h0 [a1, tn, ts, tm, tp] := Keep.refl h0 _
  refine WP.go ?_
  refine WP.cast (ef_7t2 m a1 x1 x2) ?_
  refine WP.name ?_
  intro G hG
  refine WP.st (T' := s₁) (f' := (mkF m 1 #[.val (.ref a1), .val (.int 0), .val (.double x1), .second, .val (.double x2), .second, .val (.int 0)] [(.ref a1)])) (fun t k => ?_) ?_
  · refine XS.aloadN X0.here hx rfl (hb hby d7_0) rfl rfl ?_
    exact k
  obtain ⟨T19, X19, e19, st19⟩ := getF X0 hx hZ hown (host := "") (Or.inl (w_10 hw)) Via.refl e0 F_a1_nodes (g := (mkF m 1 #[.val (.ref a1), .val (.int 0), .val (.double x1), .second, .val (.double x2), .second, .val (.int 0)] [(.ref a1)])) rfl rfl (hb hby d7_1)
  refine WP.st st19 ?_
  clear st19
  show WP p.tables e below _ T19 (mkF m 4 #[.val (.ref a1), .val (.int 0), .val (.double x1), .second, .val (.double x2), .second, .val (.int 0)] [(.ref tn)])
  refine WP.st (T' := T19) (f' := (mkF m 7 #[.val (.ref a1), .val (.int 0), .val (.double x1), .second, .val (.double x2), .second, .val (.int 0)] [(.int 0), (.int 0), (.ref tn)])) (fun t k => ?_) ?_
  · refine XS.iload X19.here hx rfl (hb hby d7_4) rfl ?_
    refine XS.iloadN X19.here hx rfl (hb hby d7_6) rfl ?_
    exact k
  obtain ⟨cl20, Ar20, q20, S20, N20, H20, G20⟩ := V_tn
  have hin20 : ¬ ((0 : Int32) < 0 ∨ cl20.slots.size ≤ ((0 : Int32)).toNatClampNeg) := inb_of S20 ⟨by decide, by decide⟩
  obtain ⟨T21, h21, X21, e21, W21, st21⟩ := stI X19 hx hZ e19 Ar20 (j := (0 : Int32)) hin20 (g := (mkF m 7 #[.val (.ref a1), .val (.int 0), .val (.double x1), .second, .val (.double x2), .second, .val (.int 0)] [(.int 0), (.int 0), (.ref tn)])) rfl rfl (hb hby d7_7)
  refine WP.st st21 ?_
  clear st21
  have Vn : Arv Z h21 tn kn .int (3 : Int32) [(.int 0), nd1, nd2] (.int 0) := Arv.set Ar20 q20 S20 N20 H20 G20 rfl W21 0 rfl (Nat.le_of_ble_eq_true rfl)
  replace E_a1 := E_a1.wr W21
  replace F_a1_nodes := F_a1_nodes.other W21 (Or.inl ne_a1_tn)
  replace F_a1_seconds := F_a1_seconds.other W21 (Or.inl ne_a1_tn)
  replace F_a1_metres := F_a1_metres.other W21 (Or.inl ne_a1_tn)
  replace F_a1_position := F_a1_position.other W21 (Or.inl ne_a1_tn)
  replace F_a1_size := F_a1_size.other W21 (Or.inl ne_a1_tn)
  replace V_ts := V_ts.other W21 (Ne.symm ne_tn_ts)
  replace V_tm := V_tm.other W21 (Ne.symm ne_tn_tm)
  replace V_tp := V_tp.other W21 (Ne.symm ne_tn_tp)
  replace Z0 := Nat.le_trans Z0 (Keep.of_wr W21).1
  replace KP := KP.wr W21 (Or.inl (List.mem_of_getElem? (i := 1) rfl))
  replace V_tn := Vn
  replace NF := Fr.snoc X21 NF g_tn
  clear W21 hin20 q20 S20 N20 H20 G20 Ar20
  show WP p.tables e below _ T21 (mkF m 8 #[.val (.ref a1), .val (.int 0), .val (.double x1), .second, .val (.double x2), .second, .val (.int 0)] [])
  refine WP.st (T' := T21) (f' := (mkF m 9 #[.val (.ref a1), .val (.int 0), .val (.double x1), .second, .val (.double x2), .second, .val (.int 0)] [(.ref a1)])) (fun t k => ?_) ?_
  · refine XS.aloadN X21.here hx rfl (hb hby d7_8) rfl rfl ?_
    exact k
  obtain ⟨T22, X22, e22, st22⟩ := getF X21 hx hZ hown (host := "") (Or.inl (w_13 hw)) Via.refl e21 F_a1_seconds (g := (mkF m 9 #[.val (.ref a1), .val (.int 0), .val (.double x1), .second, .val (.double x2), .second, .val (.int 0)] [(.ref a1)])) rfl rfl (hb hby d7_9)
  refine WP.st st22 ?_
  clear st22
  show WP p.tables e below _ T22 (mkF m 12 #[.val (.ref a1), .val (.int 0), .val (.double x1), .second, .val (.double x2), .second, .val (.int 0)] [(.ref ts)])
  refine WP.st (T' := T22) (f' := (mkF m 15 #[.val (.ref a1), .val (.int 0), .val (.double x1), .second, .val (.double x2), .second, .val (.int 0)] [(.double x1), (.int 0), (.ref ts)])) (fun t k => ?_) ?_
  · refine XS.iload X22.here hx rfl (hb hby d7_12) rfl ?_
    refine XS.dloadN X22.here hx rfl (hb hby d7_14) rfl ?_
    exact k
  obtain ⟨cl23, Ar23, q23, S23, N23, H23, G23⟩ := V_ts
  have hin23 : ¬ ((0 : Int32) < 0 ∨ cl23.slots.size ≤ ((0 : Int32)).toNatClampNeg) := inb_of S23 ⟨by decide, by decide⟩
  obtain ⟨T24, h24, X24, e24, W24, st24⟩ := stD X22 hx hZ e22 Ar23 (j := (0 : Int32)) hin23 (g := (mkF m 15 #[.val (.ref a1), .val (.int 0), .val (.double x1), .second, .val (.double x2), .second, .val (.int 0)] [(.double x1), (.int 0), (.ref ts)])) rfl rfl (hb hby d7_15)
  refine WP.st st24 ?_
  clear st24
  have Vn : Arv Z h24 ts ks .double (3 : Int32) [(.double x1), s1, s2] (.double 0) := Arv.set Ar23 q23 S23 N23 H23 G23 rfl W24 0 rfl (Nat.le_of_ble_eq_true rfl)
  replace E_a1 := E_a1.wr W24
  replace F_a1_nodes := F_a1_nodes.other W24 (Or.inl ne_a1_ts)
  replace F_a1_seconds := F_a1_seconds.other W24 (Or.inl ne_a1_ts)
  replace F_a1_metres := F_a1_metres.other W24 (Or.inl ne_a1_ts)
  replace F_a1_position := F_a1_position.other W24 (Or.inl ne_a1_ts)
  replace F_a1_size := F_a1_size.other W24 (Or.inl ne_a1_ts)
  replace V_tm := V_tm.other W24 (Ne.symm ne_ts_tm)
  replace V_tp := V_tp.other W24 (Ne.symm ne_ts_tp)
  replace V_tn := V_tn.other W24 ne_tn_ts
  replace Z0 := Nat.le_trans Z0 (Keep.of_wr W24).1
  replace KP := KP.wr W24 (Or.inl (List.mem_of_getElem? (i := 2) rfl))
  replace V_ts := Vn
  replace NF := Fr.snoc X24 NF g_ts
  clear W24 hin23 q23 S23 N23 H23 G23 Ar23
  show WP p.tables e below _ T24 (mkF m 16 #[.val (.ref a1), .val (.int 0), .val (.double x1), .second, .val (.double x2), .second, .val (.int 0)] [])
  refine WP.st (T' := T24) (f' := (mkF m 17 #[.val (.ref a1), .val (.int 0), .val (.double x1), .second, .val (.double x2), .second, .val (.int 0)] [(.ref a1)])) (fun t k => ?_) ?_
  · refine XS.aloadN X24.here hx rfl (hb hby d7_16) rfl rfl ?_
    exact k
  obtain ⟨T25, X25, e25, st25⟩ := getF X24 hx hZ hown (host := "") (Or.inl (w_15 hw)) Via.refl e24 F_a1_metres (g := (mkF m 17 #[.val (.ref a1), .val (.int 0), .val (.double x1), .second, .val (.double x2), .second, .val (.int 0)] [(.ref a1)])) rfl rfl (hb hby d7_17)
  refine WP.st st25 ?_
  clear st25
  show WP p.tables e below _ T25 (mkF m 20 #[.val (.ref a1), .val (.int 0), .val (.double x1), .second, .val (.double x2), .second, .val (.int 0)] [(.ref tm)])
  refine WP.st (T' := T25) (f' := (mkF m 24 #[.val (.ref a1), .val (.int 0), .val (.double x1), .second, .val (.double x2), .second, .val (.int 0)] [(.double x2), (.int 0), (.ref tm)])) (fun t k => ?_) ?_
  · refine XS.iload X25.here hx rfl (hb hby d7_20) rfl ?_
    refine XS.dload X25.here hx rfl (hb hby d7_22) rfl ?_
    exact k
  obtain ⟨cl26, Ar26, q26, S26, N26, H26, G26⟩ := V_tm
  have hin26 : ¬ ((0 : Int32) < 0 ∨ cl26.slots.size ≤ ((0 : Int32)).toNatClampNeg) := inb_of S26 ⟨by decide, by decide⟩
  obtain ⟨T27, h27, X27, e27, W27, st27⟩ := stD X25 hx hZ e25 Ar26 (j := (0 : Int32)) hin26 (g := (mkF m 24 #[.val (.ref a1), .val (.int 0), .val (.double x1), .second, .val (.double x2), .second, .val (.int 0)] [(.double x2), (.int 0), (.ref tm)])) rfl rfl (hb hby d7_24)
  refine WP.st st27 ?_
  clear st27
  have Vn : Arv Z h27 tm km .double (3 : Int32) [(.double x2), m1, m2] (.double 0) := Arv.set Ar26 q26 S26 N26 H26 G26 rfl W27 0 rfl (Nat.le_of_ble_eq_true rfl)
  replace E_a1 := E_a1.wr W27
  replace F_a1_nodes := F_a1_nodes.other W27 (Or.inl ne_a1_tm)
  replace F_a1_seconds := F_a1_seconds.other W27 (Or.inl ne_a1_tm)
  replace F_a1_metres := F_a1_metres.other W27 (Or.inl ne_a1_tm)
  replace F_a1_position := F_a1_position.other W27 (Or.inl ne_a1_tm)
  replace F_a1_size := F_a1_size.other W27 (Or.inl ne_a1_tm)
  replace V_tp := V_tp.other W27 (Ne.symm ne_tm_tp)
  replace V_tn := V_tn.other W27 ne_tn_tm
  replace V_ts := V_ts.other W27 ne_ts_tm
  replace Z0 := Nat.le_trans Z0 (Keep.of_wr W27).1
  replace KP := KP.wr W27 (Or.inl (List.mem_of_getElem? (i := 3) rfl))
  replace V_tm := Vn
  replace NF := Fr.snoc X27 NF g_tm
  clear W27 hin26 q26 S26 N26 H26 G26 Ar26
  show WP p.tables e below _ T27 (mkF m 25 #[.val (.ref a1), .val (.int 0), .val (.double x1), .second, .val (.double x2), .second, .val (.int 0)] [])
  refine WP.st (T' := T27) (f' := (mkF m 26 #[.val (.ref a1), .val (.int 0), .val (.double x1), .second, .val (.double x2), .second, .val (.int 0)] [(.ref a1)])) (fun t k => ?_) ?_
  · refine XS.aloadN X27.here hx rfl (hb hby d7_25) rfl rfl ?_
    exact k
  obtain ⟨T28, X28, e28, st28⟩ := getF X27 hx hZ hown (host := "") (Or.inl (w_17 hw)) Via.refl e27 F_a1_position (g := (mkF m 26 #[.val (.ref a1), .val (.int 0), .val (.double x1), .second, .val (.double x2), .second, .val (.int 0)] [(.ref a1)])) rfl rfl (hb hby d7_26)
  refine WP.st st28 ?_
  clear st28
  show WP p.tables e below _ T28 (mkF m 29 #[.val (.ref a1), .val (.int 0), .val (.double x1), .second, .val (.double x2), .second, .val (.int 0)] [(.ref tp)])
  refine WP.st (T' := T28) (f' := (mkF m 34 #[.val (.ref a1), .val (.int 0), .val (.double x1), .second, .val (.double x2), .second, .val (.int 0)] [(.int ((0 : Int32) + (1 : Int32))), (.int 0), (.ref tp)])) (fun t k => ?_) ?_
  · refine XS.iloadN X28.here hx rfl (hb hby d7_29) rfl ?_
    refine XS.iload X28.here hx rfl (hb hby d7_30) rfl ?_
    refine XS.iconst X28.here hx rfl (hb hby d7_32) ?_
    refine XS.iadd X28.here hx rfl (hb hby d7_33) rfl ?_
    exact k
  rw [show ((0 : Int32) + (1 : Int32)) = (1 : Int32) from by decide]
  show WP p.tables e below _ T28 (mkF m 34 #[.val (.ref a1), .val (.int 0), .val (.double x1), .second, .val (.double x2), .second, .val (.int 0)] [(.int 1), (.int 0), (.ref tp)])
  obtain ⟨cl29, Ar29, q29, S29, N29, H29, G29⟩ := V_tp
  have hin29 : ¬ ((0 : Int32) < 0 ∨ cl29.slots.size ≤ ((0 : Int32)).toNatClampNeg) := inb_of S29 ⟨by decide, by decide⟩
  obtain ⟨T30, h30, X30, e30, W30, st30⟩ := stI X28 hx hZ e28 Ar29 (j := (0 : Int32)) hin29 (g := (mkF m 34 #[.val (.ref a1), .val (.int 0), .val (.double x1), .second, .val (.double x2), .second, .val (.int 0)] [(.int 1), (.int 0), (.ref tp)])) rfl rfl (hb hby d7_34)
  refine WP.st st30 ?_
  clear st30
  have Vn : Arv Z h30 tp kp .int (3 : Int32) [(.int 1), p1, p2] (.int 0) := Arv.set Ar29 q29 S29 N29 H29 G29 rfl W30 0 rfl (Nat.le_of_ble_eq_true rfl)
  replace E_a1 := E_a1.wr W30
  replace F_a1_nodes := F_a1_nodes.other W30 (Or.inl ne_a1_tp)
  replace F_a1_seconds := F_a1_seconds.other W30 (Or.inl ne_a1_tp)
  replace F_a1_metres := F_a1_metres.other W30 (Or.inl ne_a1_tp)
  replace F_a1_position := F_a1_position.other W30 (Or.inl ne_a1_tp)
  replace F_a1_size := F_a1_size.other W30 (Or.inl ne_a1_tp)
  replace V_tn := V_tn.other W30 ne_tn_tp
  replace V_ts := V_ts.other W30 ne_ts_tp
  replace V_tm := V_tm.other W30 ne_tm_tp
  replace Z0 := Nat.le_trans Z0 (Keep.of_wr W30).1
  replace KP := KP.wr W30 (Or.inl (List.mem_of_getElem? (i := 4) rfl))
  replace V_tp := Vn
  replace NF := Fr.snoc X30 NF g_tp
  clear W30 hin29 q29 S29 N29 H29 G29 Ar29
  show WP p.tables e below _ T30 (mkF m 35 #[.val (.ref a1), .val (.int 0), .val (.double x1), .second, .val (.double x2), .second, .val (.int 0)] [])
  subst hG
  obtain ⟨fs, hr, hrun, hended, hW, hsame⟩ := X30.leave (v := none) (fun _ => rfl)
  refine WP.fin ⟨_, _, ?_, hrun, hended, _, _, rfl, ?_, ⟨_, rfl⟩, hW, hsame.mono (by decide) (by decide)⟩
  · exact X30.returnOut hx Bd.returns (hb hby d7_35) hr
  · show Q7t2 Z a1 x1 x2 tn ts tm tp kn ks km kp nd0 nd1 nd2 s0 s1 s2 m0 m1 m2 p0 p1 p2 u_size h0 n0 _ T30.heap _
    rw [e30]
    exact ⟨rfl, NF, KP, F_a1_nodes, F_a1_seconds, F_a1_metres, F_a1_position, F_a1_size, V_tn, V_ts, V_tm, V_tp⟩
theorem ef_6t1 (m : MethodId) (z0 : Addr) (z2 : UInt64) (z3 : UInt64) : entryFrame m #[(.ref z0), (.int 0), (.double z2), (.double z3), (.int 0)] 8 = mkF m 0 #[.val (.ref z0), .val (.int 0), .val (.double z2), .second, .val (.double z3), .second, .val (.int 0), .unset] [] := by
  all_goals first | (simp [entryFrame, mkF, argsToLocals, Value.category]; done) | rfl
theorem d6_0 : decode prog_49_method_7_code 0 = .ok (.iload 6, 2) := by decide +kernel
theorem d6_2 : decode prog_49_method_7_code 2 = .ok (.ifCond .le 52, 3) := by decide +kernel
theorem d6_54 : decode prog_49_method_7_code 54 = .ok (.aload_n 0, 1) := by decide +kernel
theorem d6_55 : decode prog_49_method_7_code 55 = .ok (.iload_n 1, 1) := by decide +kernel
theorem d6_56 : decode prog_49_method_7_code 56 = .ok (.dload_n 2, 1) := by decide +kernel
theorem d6_57 : decode prog_49_method_7_code 57 = .ok (.dload 4, 2) := by decide +kernel
theorem d6_59 : decode prog_49_method_7_code 59 = .ok (.iload 6, 2) := by decide +kernel
theorem w_41 {a0 : Array Value} {Z : State} (hw : ∀ d ∈ tables_1, d.before a0 Z = true) : (Jvm.Cond.methodLink "com/example/tandemcab/tandemcab/NodeQueue" (42 : Nat) ({ cls := "com/example/tandemcab/tandemcab/NodeQueue", name := "place", desc := "(IDDI)V" } : Jvm.MethodName)).before a0 Z = true := hw _ (List.mem_of_getElem? (i := 41) rfl)
theorem d6_61 : decode prog_49_method_7_code 61 = .ok (.invokevirtual 42, 3) := by decide +kernel
theorem w_44 {a0 : Array Value} {Z : State} (hw : ∀ d ∈ tables_1, d.before a0 Z = true) : (Jvm.Cond.code ({ cls := "com/example/tandemcab/tandemcab/NodeQueue", name := "place", desc := "(IDDI)V" } : Jvm.MethodName) prog_49_method_10_code (7 : Nat) (Option.none : Option Jvm.ClassFile.FieldType)).before a0 Z = true := hw _ (List.mem_of_getElem? (i := 44) rfl)
theorem pd_2 : parseMethodDescriptor "(IDDI)V" = some ⟨[.int, .double, .double, .int], none⟩ := by decide +kernel
theorem w_43 {a0 : Array Value} {Z : State} (hw : ∀ d ∈ tables_1, d.before a0 Z = true) : (Jvm.Cond.privateMethod ({ cls := "com/example/tandemcab/tandemcab/NodeQueue", name := "place", desc := "(IDDI)V" } : Jvm.MethodName)).before a0 Z = true := hw _ (List.mem_of_getElem? (i := 43) rfl)
theorem w_22 {a0 : Array Value} {Z : State} (hw : ∀ d ∈ tables_1, d.before a0 Z = true) : (Jvm.Cond.selects "com/example/tandemcab/tandemcab/NodeQueue" ({ cls := "com/example/tandemcab/tandemcab/NodeQueue", name := "clear", desc := "()V" } : Jvm.MethodName) ({ cls := "com/example/tandemcab/tandemcab/NodeQueue", name := "clear", desc := "()V" } : Jvm.MethodName)).before a0 Z = true := hw _ (List.mem_of_getElem? (i := 22) rfl)
theorem w_42 {a0 : Array Value} {Z : State} (hw : ∀ d ∈ tables_1, d.before a0 Z = true) : (Jvm.Cond.instanceMethod ({ cls := "com/example/tandemcab/tandemcab/NodeQueue", name := "place", desc := "(IDDI)V" } : Jvm.MethodName)).before a0 Z = true := hw _ (List.mem_of_getElem? (i := 42) rfl)
theorem d6_64 : decode prog_49_method_7_code 64 = .ok (.return_, 1) := by decide +kernel
def Q6t1 (Z : State) (a1 : Addr) (x1 : UInt64) (x2 : UInt64) (tn : Addr) (ts : Addr) (tm : Addr) (tp : Addr) (kn : ClassId) (ks : ClassId) (km : ClassId) (kp : ClassId) (nd0 : Value) (nd1 : Value) (nd2 : Value) (s0 : Value) (s1 : Value) (s2 : Value) (m0 : Value) (m1 : Value) (m2 : Value) (p0 : Value) (p1 : Value) (p2 : Value) (u_size : Int32) (h0 : Heap) (n0 : Nat) (v : Option Value) (h : Heap) (L : List Loc) : Prop := v = none ∧ Fr n0 L ∧ Keep h0 h [a1, tn, ts, tm, tp] ∧ Fld Z h a1 "com/example/tandemcab/tandemcab/NodeQueue" "nodes" "[I" (.ref tn) ∧ Fld Z h a1 "com/example/tandemcab/tandemcab/NodeQueue" "seconds" "[D" (.ref ts) ∧ Fld Z h a1 "com/example/tandemcab/tandemcab/NodeQueue" "metres" "[D" (.ref tm) ∧ Fld Z h a1 "com/example/tandemcab/tandemcab/NodeQueue" "position" "[I" (.ref tp) ∧ Fld Z h a1 "com/example/tandemcab/tandemcab/NodeQueue" "size" "I" (.int u_size) ∧ (Arv Z h tn kn .int (3 : Int32) [(.int 0), nd1, nd2] (.int 0)) ∧ (Arv Z h ts ks .double (3 : Int32) [(.double x1), s1, s2] (.double 0)) ∧ (Arv Z h tm km .double (3 : Int32) [(.double x2), m1, m2] (.double 0)) ∧ (Arv Z h tp kp .int (3 : Int32) [(.int 1), p1, p2] (.int 0))
set_option maxRecDepth 65536 in
set_option maxHeartbeats 40000000 in
theorem rm6t1 (l : Launch) (Z : State) (a0 : Array Value) (hw : ∀ d ∈ tables_1, d.before a0 Z = true) (wsC : List Jvm.Cond) (a1 : Addr) (x1 : UInt64) (x2 : UInt64) (tn : Addr) (ts : Addr) (tm : Addr) (tp : Addr) (kn : ClassId) (ks : ClassId) (km : ClassId) (kp : ClassId) (nd0 : Value) (nd1 : Value) (nd2 : Value) (s0 : Value) (s1 : Value) (s2 : Value) (m0 : Value) (m1 : Value) (m2 : Value) (p0 : Value) (p1 : Value) (p2 : Value) (u_size : Int32) (h0 : Heap) (n0 : Nat) (Z0 : n0 ≤ h0.size) (E_a1 : Exa Z h0 a1 "com/example/tandemcab/tandemcab/NodeQueue") (F_a1_nodes : Fld Z h0 a1 "com/example/tandemcab/tandemcab/NodeQueue" "nodes" "[I" (.ref tn)) (F_a1_seconds : Fld Z h0 a1 "com/example/tandemcab/tandemcab/NodeQueue" "seconds" "[D" (.ref ts)) (F_a1_metres : Fld Z h0 a1 "com/example/tandemcab/tandemcab/NodeQueue" "metres" "[D" (.ref tm)) (F_a1_position : Fld Z h0 a1 "com/example/tandemcab/tandemcab/NodeQueue" "position" "[I" (.ref tp)) (F_a1_size : Fld Z h0 a1 "com/example/tandemcab/tandemcab/NodeQueue" "size" "I" (.int u_size)) (V_tn : Arv Z h0 tn kn .int (3 : Int32) [nd0, nd1, nd2] (.int 0)) (V_ts : Arv Z h0 ts ks .double (3 : Int32) [s0, s1, s2] (.double 0)) (V_tm : Arv Z h0 tm km .double (3 : Int32) [m0, m1, m2] (.double 0)) (V_tp : Arv Z h0 tp kp .int (3 : Int32) [p0, p1, p2] (.int 0)) (g_a1 : n0 ≤ a1) (g_tn : n0 ≤ tn) (g_ts : n0 ≤ ts) (g_tm : n0 ≤ tm) (g_tp : n0 ≤ tp) (ne_a1_tn : a1 ≠ tn) (ne_a1_ts : a1 ≠ ts) (ne_a1_tm : a1 ≠ tm) (ne_a1_tp : a1 ≠ tp) (ne_tn_ts : tn ≠ ts) (ne_tn_tm : tn ≠ tm) (ne_tn_tp : tn ≠ tp) (ne_ts_tm : ts ≠ tm) (ne_ts_tp : ts ≠ tp) (ne_tm_tp : tm ≠ tp) :
    MetFree l (⟨"com/example/tandemcab/tandemcab/NodeQueue", "up", "(IDDI)V"⟩ : MethodName) (head1 (Jvm.Cond.code (⟨"com/example/tandemcab/tandemcab/NodeQueue", "up", "(IDDI)V"⟩ : MethodName) prog_49_method_7_code 8 none :: wsC) ({ frames := 1, cells := 0, slots := 0, locals := 18 } : Room)) (fun a U => a = #[(.ref a1), (.int 0), (.double x1), (.double x2), (.int 0)] ∧ Z.Warmed39 U.vm ∧ U.heap = h0) (fun _ _ _ _ _ => True) (fun _ U o U' => ∃ v L, o = .returned v ∧ Q6t1 Z a1 x1 x2 tn ts tm tp kn ks km kp nd0 nd1 nd2 s0 s1 s2 m0 m1 m2 p0 p1 p2 u_size h0 n0 v U'.heap L ∧ FrameEnd U o U' L ({ frames := 1, cells := 0, slots := 0, locals := 18 } : Room).cells ({ frames := 1, cells := 0, slots := 0, locals := 18 } : Room).slots) := by
  refine MetFree.of_bodySF (plainFor_of_name pn_0) hisR ?_
  intro p e s m args below meth c s₁ Bd hml0 hP hK
  obtain ⟨rfl, hZ, hh⟩ := hP
  have hx := Bd.exec
  have hby := Bd.bytes
  have hml : c.maxLocals = 8 := hml0
  have hown : s.vm.findClass "com/example/tandemcab/tandemcab/NodeQueue" = some m.cls := findClass_of_methodNamed Bd.named
  have hnm := (name_of_methodNamed Bd.named Bd.method).1
  have X0 : Stand p l e ({ frames := 1, cells := 0, slots := 0, locals := 18 } : Room) s m #[(.ref a1), (.int 0), (.double x1), (.double x2), (.int 0)] below meth c s₁ [] 0 0 := Stand.of_body Bd
  have e0 : s₁.heap = h0 := by rw [← hh, Bd.state]; rfl
  have NF := Fr.nil n0
  have KP : Keep h0 h0 [a1, tn, ts, tm, tp] := Keep.refl h0 _
  refine WP.go ?_
  refine WP.cast (ef_6t1 m a1 x1 x2) ?_
  refine WP.name ?_
  intro G hG
  refine WP.st (T' := s₁) (f' := (mkF m 61 #[.val (.ref a1), .val (.int 0), .val (.double x1), .second, .val (.double x2), .second, .val (.int 0), .unset] [(.int 0), (.double x2), (.double x1), (.int 0), (.ref a1)])) (fun t k => ?_) ?_
  · refine XS.iload X0.here hx rfl (hb hby d6_0) rfl ?_
    refine XS.ifYes X0.here hx rfl (pc0 := 2) (pc' := 54) rfl (hb hby d6_2) rfl ((if0 _ _).trans (flt (by decide : ¬ ((0 : Int32) < (0 : Int32)))).2.2.2) (by decide) (by decide) ?_
    refine XS.aloadN X0.here hx rfl (hb hby d6_54) rfl rfl ?_
    refine XS.iloadN X0.here hx rfl (hb hby d6_55) rfl ?_
    refine XS.dloadN X0.here hx rfl (hb hby d6_56) rfl ?_
    refine XS.dload X0.here hx rfl (hb hby d6_57) rfl ?_
    refine XS.iload X0.here hx rfl (hb hby d6_59) rfl ?_
    exact k
  obtain ⟨cq31, q31, q31'⟩ := E_a1.cell
  obtain ⟨_, _, ⟨T31, L31, k31, n31⟩, -, X31, ⟨Lc31, hQ31, l31, y31, z31⟩, st31⟩ := X0.privateBack hx (y := (⟨"com/example/tandemcab/tandemcab/NodeQueue", "place", "(IDDI)V"⟩ : MethodName)) hown (mvT hZ (w_41 hw)) (mvT hZ (w_42 hw)) (ownSel (y := (⟨"com/example/tandemcab/tandemcab/NodeQueue", "place", "(IDDI)V"⟩ : MethodName)) (mvT hZ (w_22 hw)) rfl (Cond.privateMethod_at (mvP hZ (w_43 hw) (args := #[]))) (mvT hZ (w_42 hw)) (by decide)) (Cond.privateMethod_at (mvP hZ (w_43 hw) (args := #[]))) (mvT hZ (w_44 hw)) (by decide) (backOf (W := 0) (rm7t2 l Z a0 hw [] a1 x1 x2 tn ts tm tp kn ks km kp nd0 nd1 nd2 s0 s1 s2 m0 m1 m2 p0 p1 p2 u_size h0 n0 Z0 E_a1 F_a1_nodes F_a1_seconds F_a1_metres F_a1_position F_a1_size V_tn V_ts V_tm V_tp g_a1 g_tn g_ts g_tm g_tp ne_a1_tn ne_a1_ts ne_a1_tm ne_a1_tp ne_tn_ts ne_tn_tm ne_tn_tp ne_ts_tm ne_ts_tp ne_tm_tp) hZ (w_44 hw) (w_2 hw) (by decide) (by decide)) (g := (mkF m 61 #[.val (.ref a1), .val (.int 0), .val (.double x1), .second, .val (.double x2), .second, .val (.int 0), .unset] [(.int 0), (.double x2), (.double x1), (.int 0), (.ref a1)])) rfl (by rw [hml]; rfl) (Steps.refl _) (a := a1) (by rw [e0]; exact q31) q31' (argsL := [(.int 0), (.double x1), (.double x2), (.int 0)]) (rest := []) (lenOf pd_2 rfl) rfl (by show 2 * 0 + _ ≤ _; exact Nat.le_of_eq rfl) (hb hby d6_61) (fun _ _ => ⟨rfl, e0, (by decide : 0 + 0 ≤ _), (by decide : 0 + 0 ≤ _)⟩)
  dsimp only [Pt.U, Pt.locs, Pt.cells, Pt.slots] at X31 l31 y31 z31 st31 hQ31
  subst l31 y31 z31
  obtain ⟨rfl, Nq31, Kq31, nF31_a1_nodes, nF31_a1_seconds, nF31_a1_metres, nF31_a1_position, nF31_a1_size, nA31_tn, nA31_ts, nA31_tm, nA31_tp⟩ := hQ31
  replace NF := Fr.app NF Nq31
  clear Nq31
  refine WP.tr st31 ?_
  clear st31
  obtain ⟨h31, e31⟩ : ∃ h, T31.heap = h := ⟨_, rfl⟩
  rw [e31] at Kq31 nF31_a1_nodes nF31_a1_seconds nF31_a1_metres nF31_a1_position nF31_a1_size nA31_tn nA31_ts nA31_tm nA31_tp
  replace E_a1 := E_a1.keep Kq31
  clear F_a1_nodes
  clear F_a1_seconds
  clear F_a1_metres
  clear F_a1_position
  clear F_a1_size
  clear V_tn
  clear V_ts
  clear V_tm
  clear V_tp
  replace Z0 := Nat.le_trans Z0 Kq31.1
  replace KP := KP.trans Kq31 (allS (Or.inl (List.mem_of_getElem? (i := 0) rfl)) (allS (Or.inl (List.mem_of_getElem? (i := 1) rfl)) (allS (Or.inl (List.mem_of_getElem? (i := 2) rfl)) (allS (Or.inl (List.mem_of_getElem? (i := 3) rfl)) (allS (Or.inl (List.mem_of_getElem? (i := 4) rfl)) all0)))))
  clear Kq31
  have F_a1_nodes := nF31_a1_nodes
  clear nF31_a1_nodes
  have F_a1_seconds := nF31_a1_seconds
  clear nF31_a1_seconds
  have F_a1_metres := nF31_a1_metres
  clear nF31_a1_metres
  have F_a1_position := nF31_a1_position
  clear nF31_a1_position
  have F_a1_size := nF31_a1_size
  clear nF31_a1_size
  have V_tn := nA31_tn
  clear nA31_tn
  have V_ts := nA31_ts
  clear nA31_ts
  have V_tm := nA31_tm
  clear nA31_tm
  have V_tp := nA31_tp
  clear nA31_tp
  show WP p.tables e below _ T31 (mkF m 64 #[.val (.ref a1), .val (.int 0), .val (.double x1), .second, .val (.double x2), .second, .val (.int 0), .unset] [])
  subst hG
  obtain ⟨fs, hr, hrun, hended, hW, hsame⟩ := X31.leave (v := none) (fun _ => rfl)
  refine WP.fin ⟨_, _, ?_, hrun, hended, _, _, rfl, ?_, ⟨_, rfl⟩, hW, hsame.mono (by decide) (by decide)⟩
  · exact X31.returnOut hx Bd.returns (hb hby d6_64) hr
  · show Q6t1 Z a1 x1 x2 tn ts tm tp kn ks km kp nd0 nd1 nd2 s0 s1 s2 m0 m1 m2 p0 p1 p2 u_size h0 n0 _ T31.heap _
    rw [e31]
    exact ⟨rfl, NF, KP, F_a1_nodes, F_a1_seconds, F_a1_metres, F_a1_position, F_a1_size, V_tn, V_ts, V_tm, V_tp⟩
theorem ef_5t0 (m : MethodId) (z0 : Addr) (z2 : UInt64) (z3 : UInt64) : entryFrame m #[(.ref z0), (.int 0), (.double z2), (.double z3)] 7 = mkF m 0 #[.val (.ref z0), .val (.int 0), .val (.double z2), .second, .val (.double z3), .second, .unset] [] := by
  all_goals first | (simp [entryFrame, mkF, argsToLocals, Value.category]; done) | rfl
theorem d5_0 : decode prog_49_method_5_code 0 = .ok (.aload_n 0, 1) := by decide +kernel
theorem d5_1 : decode prog_49_method_5_code 1 = .ok (.getfield 20, 3) := by decide +kernel
theorem d5_4 : decode prog_49_method_5_code 4 = .ok (.iload_n 1, 1) := by decide +kernel
theorem d5_5 : decode prog_49_method_5_code 5 = .ok (.iaload, 1) := by decide +kernel
theorem d5_6 : decode prog_49_method_5_code 6 = .ok (.iconst 1, 1) := by decide +kernel
theorem d5_7 : decode prog_49_method_5_code 7 = .ok (.isub, 1) := by decide +kernel
theorem d5_8 : decode prog_49_method_5_code 8 = .ok (.istore 6, 2) := by decide +kernel
theorem d5_10 : decode prog_49_method_5_code 10 = .ok (.iload 6, 2) := by decide +kernel
theorem d5_12 : decode prog_49_method_5_code 12 = .ok (.ifCond .ge 25, 3) := by decide +kernel
theorem d5_15 : decode prog_49_method_5_code 15 = .ok (.aload_n 0, 1) := by decide +kernel
theorem d5_16 : decode prog_49_method_5_code 16 = .ok (.iload_n 1, 1) := by decide +kernel
theorem d5_17 : decode prog_49_method_5_code 17 = .ok (.dload_n 2, 1) := by decide +kernel
theorem d5_18 : decode prog_49_method_5_code 18 = .ok (.dload 4, 2) := by decide +kernel
theorem d5_20 : decode prog_49_method_5_code 20 = .ok (.aload_n 0, 1) := by decide +kernel
theorem d5_21 : decode prog_49_method_5_code 21 = .ok (.dup, 1) := by decide +kernel
theorem d5_22 : decode prog_49_method_5_code 22 = .ok (.getfield 23, 3) := by decide +kernel
theorem d5_25 : decode prog_49_method_5_code 25 = .ok (.dup_x1, 1) := by decide +kernel
theorem d5_26 : decode prog_49_method_5_code 26 = .ok (.iconst 1, 1) := by decide +kernel
theorem d5_27 : decode prog_49_method_5_code 27 = .ok (.iadd, 1) := by decide +kernel
theorem d5_28 : decode prog_49_method_5_code 28 = .ok (.putfield 23, 3) := by decide +kernel
theorem sn_16 {a0 : Array Value} {Z : State} (hw : ∀ d ∈ tables_1, d.before a0 Z = true) : Jvm.RoadKit.slotOf Z "com/example/tandemcab/tandemcab/NodeQueue" "nodes" "[I" ≠ Jvm.RoadKit.slotOf Z "com/example/tandemcab/tandemcab/NodeQueue" "size" "I" := slot_ne (Or.inr (w_11 hw)) (Or.inl (w_25 hw)) (by decide) (t := (.array .int)) (t' := .int) (by decide) (by decide)
theorem sn_17 {a0 : Array Value} {Z : State} (hw : ∀ d ∈ tables_1, d.before a0 Z = true) : Jvm.RoadKit.slotOf Z "com/example/tandemcab/tandemcab/NodeQueue" "seconds" "[D" ≠ Jvm.RoadKit.slotOf Z "com/example/tandemcab/tandemcab/NodeQueue" "size" "I" := slot_ne (Or.inr (w_14 hw)) (Or.inl (w_25 hw)) (by decide) (t := (.array .double)) (t' := .int) (by decide) (by decide)
theorem sn_18 {a0 : Array Value} {Z : State} (hw : ∀ d ∈ tables_1, d.before a0 Z = true) : Jvm.RoadKit.slotOf Z "com/example/tandemcab/tandemcab/NodeQueue" "metres" "[D" ≠ Jvm.RoadKit.slotOf Z "com/example/tandemcab/tandemcab/NodeQueue" "size" "I" := slot_ne (Or.inr (w_16 hw)) (Or.inl (w_25 hw)) (by decide) (t := (.array .double)) (t' := .int) (by decide) (by decide)
theorem sn_19 {a0 : Array Value} {Z : State} (hw : ∀ d ∈ tables_1, d.before a0 Z = true) : Jvm.RoadKit.slotOf Z "com/example/tandemcab/tandemcab/NodeQueue" "position" "[I" ≠ Jvm.RoadKit.slotOf Z "com/example/tandemcab/tandemcab/NodeQueue" "size" "I" := slot_ne (Or.inr (w_18 hw)) (Or.inl (w_25 hw)) (by decide) (t := (.array .int)) (t' := .int) (by decide) (by decide)
theorem w_37 {a0 : Array Value} {Z : State} (hw : ∀ d ∈ tables_1, d.before a0 Z = true) : (Jvm.Cond.methodLink "com/example/tandemcab/tandemcab/NodeQueue" (27 : Nat) ({ cls := "com/example/tandemcab/tandemcab/NodeQueue", name := "up", desc := "(IDDI)V" } : Jvm.MethodName)).before a0 Z = true := hw _ (List.mem_of_getElem? (i := 37) rfl)
theorem d5_31 : decode prog_49_method_5_code 31 = .ok (.invokevirtual 27, 3) := by decide +kernel
theorem w_40 {a0 : Array Value} {Z : State} (hw : ∀ d ∈ tables_1, d.before a0 Z = true) : (Jvm.Cond.code ({ cls := "com/example/tandemcab/tandemcab/NodeQueue", name := "up", desc := "(IDDI)V" } : Jvm.MethodName) prog_49_method_7_code (8 : Nat) (Option.none : Option Jvm.ClassFile.FieldType)).before a0 Z = true := hw _ (List.mem_of_getElem? (i := 40) rfl)
theorem w_39 {a0 : Array Value} {Z : State} (hw : ∀ d ∈ tables_1, d.before a0 Z = true) : (Jvm.Cond.privateMethod ({ cls := "com/example/tandemcab/tandemcab/NodeQueue", name := "up", desc := "(IDDI)V" } : Jvm.MethodName)).before a0 Z = true := hw _ (List.mem_of_getElem? (i := 39) rfl)
theorem w_38 {a0 : Array Value} {Z : State} (hw : ∀ d ∈ tables_1, d.before a0 Z = true) : (Jvm.Cond.instanceMethod ({ cls := "com/example/tandemcab/tandemcab/NodeQueue", name := "up", desc := "(IDDI)V" } : Jvm.MethodName)).before a0 Z = true := hw _ (List.mem_of_getElem? (i := 38) rfl)
theorem d5_34 : decode prog_49_method_5_code 34 = .ok (.goto 49, 3) := by decide +kernel
theorem d5_83 : decode prog_49_method_5_code 83 = .ok (.return_, 1) := by decide +kernel
def Q5t0 (Z : State) (a1 : Addr) (x1 : UInt64) (x2 : UInt64) (tn : Addr) (ts : Addr) (tm : Addr) (tp : Addr) (kn : ClassId) (ks : ClassId) (km : ClassId) (kp : ClassId) (nd0 : Value) (nd1 : Value) (nd2 : Value) (s0 : Value) (s1 : Value) (s2 : Value) (m0 : Value) (m1 : Value) (m2 : Value) (p1 : Value) (p2 : Value) (h0 : Heap) (n0 : Nat) (v : Option Value) (h : Heap) (L : List Loc) : Prop := v = none ∧ Fr n0 L ∧ Keep h0 h [a1, tn, ts, tm, tp] ∧ Fld Z h a1 "com/example/tandemcab/tandemcab/NodeQueue" "nodes" "[I" (.ref tn) ∧ Fld Z h a1 "com/example/tandemcab/tandemcab/NodeQueue" "seconds" "[D" (.ref ts) ∧ Fld Z h a1 "com/example/tandemcab/tandemcab/NodeQueue" "metres" "[D" (.ref tm) ∧ Fld Z h a1 "com/example/tandemcab/tandemcab/NodeQueue" "position" "[I" (.ref tp) ∧ Fld Z h a1 "com/example/tandemcab/tandemcab/NodeQueue" "size" "I" (.int 1) ∧ (Arv Z h tn kn .int (3 : Int32) [(.int 0), nd1, nd2] (.int 0)) ∧ (Arv Z h ts ks .double (3 : Int32) [(.double x1), s1, s2] (.double 0)) ∧ (Arv Z h tm km .double (3 : Int32) [(.double x2), m1, m2] (.double 0)) ∧ (Arv Z h tp kp .int (3 : Int32) [(.int 1), p1, p2] (.int 0))
set_option maxRecDepth 65536 in
set_option maxHeartbeats 40000000 in
theorem rm5t0 (l : Launch) (Z : State) (a0 : Array Value) (hw : ∀ d ∈ tables_1, d.before a0 Z = true) (wsC : List Jvm.Cond) (a1 : Addr) (x1 : UInt64) (x2 : UInt64) (tn : Addr) (ts : Addr) (tm : Addr) (tp : Addr) (kn : ClassId) (ks : ClassId) (km : ClassId) (kp : ClassId) (nd0 : Value) (nd1 : Value) (nd2 : Value) (s0 : Value) (s1 : Value) (s2 : Value) (m0 : Value) (m1 : Value) (m2 : Value) (p1 : Value) (p2 : Value) (h0 : Heap) (n0 : Nat) (Z0 : n0 ≤ h0.size) (E_a1 : Exa Z h0 a1 "com/example/tandemcab/tandemcab/NodeQueue") (F_a1_nodes : Fld Z h0 a1 "com/example/tandemcab/tandemcab/NodeQueue" "nodes" "[I" (.ref tn)) (F_a1_seconds : Fld Z h0 a1 "com/example/tandemcab/tandemcab/NodeQueue" "seconds" "[D" (.ref ts)) (F_a1_metres : Fld Z h0 a1 "com/example/tandemcab/tandemcab/NodeQueue" "metres" "[D" (.ref tm)) (F_a1_position : Fld Z h0 a1 "com/example/tandemcab/tandemcab/NodeQueue" "position" "[I" (.ref tp)) (F_a1_size : Fld Z h0 a1 "com/example/tandemcab/tandemcab/NodeQueue" "size" "I" (.int 0)) (V_tn : Arv Z h0 tn kn .int (3 : Int32) [nd0, nd1, nd2] (.int 0)) (V_ts : Arv Z h0 ts ks .double (3 : Int32) [s0, s1, s2] (.double 0)) (V_tm : Arv Z h0 tm km .double (3 : Int32) [m0, m1, m2] (.double 0)) (V_tp : Arv Z h0 tp kp .int (3 : Int32) [(.int 0), p1, p2] (.int 0)) (g_a1 : n0 ≤ a1) (g_tn : n0 ≤ tn) (g_ts : n0 ≤ ts) (g_tm : n0 ≤ tm) (g_tp : n0 ≤ tp) (ne_a1_tn : a1 ≠ tn) (ne_a1_ts : a1 ≠ ts) (ne_a1_tm : a1 ≠ tm) (ne_a1_tp : a1 ≠ tp) (ne_tn_ts : tn ≠ ts) (ne_tn_tm : tn ≠ tm) (ne_tn_tp : tn ≠ tp) (ne_ts_tm : ts ≠ tm) (ne_ts_tp : ts ≠ tp) (ne_tm_tp : tm ≠ tp) :
    MetFree l (⟨"com/example/tandemcab/tandemcab/NodeQueue", "offer", "(IDD)V"⟩ : MethodName) (head1 (Jvm.Cond.code (⟨"com/example/tandemcab/tandemcab/NodeQueue", "offer", "(IDD)V"⟩ : MethodName) prog_49_method_5_code 7 none :: wsC) ({ frames := 2, cells := 0, slots := 0, locals := 37 } : Room)) (fun a U => a = #[(.ref a1), (.int 0), (.double x1), (.double x2)] ∧ Z.Warmed39 U.vm ∧ U.heap = h0) (fun _ _ _ _ _ => True) (fun _ U o U' => ∃ v L, o = .returned v ∧ Q5t0 Z a1 x1 x2 tn ts tm tp kn ks km kp nd0 nd1 nd2 s0 s1 s2 m0 m1 m2 p1 p2 h0 n0 v U'.heap L ∧ FrameEnd U o U' L ({ frames := 2, cells := 0, slots := 0, locals := 37 } : Room).cells ({ frames := 2, cells := 0, slots := 0, locals := 37 } : Room).slots) := by
  refine MetFree.of_bodySF (plainFor_of_name pn_0) hisR ?_
  intro p e s m args below meth c s₁ Bd hml0 hP hK
  obtain ⟨rfl, hZ, hh⟩ := hP
  have hx := Bd.exec
  have hby := Bd.bytes
  have hml : c.maxLocals = 7 := hml0
  have hown : s.vm.findClass "com/example/tandemcab/tandemcab/NodeQueue" = some m.cls := findClass_of_methodNamed Bd.named
  have hnm := (name_of_methodNamed Bd.named Bd.method).1
  have X0 : Stand p l e ({ frames := 2, cells := 0, slots := 0, locals := 37 } : Room) s m #[(.ref a1), (.int 0), (.double x1), (.double x2)] below meth c s₁ [] 0 0 := Stand.of_body Bd
  have e0 : s₁.heap = h0 := by rw [← hh, Bd.state]; rfl
  have NF := Fr.nil n0
  have KP : Keep h0 h0 [a1, tn, ts, tm, tp] := Keep.refl h0 _
  refine WP.go ?_
  refine WP.cast (ef_5t0 m a1 x1 x2) ?_
  refine WP.name ?_
  intro G hG
  refine WP.st (T' := s₁) (f' := (mkF m 1 #[.val (.ref a1), .val (.int 0), .val (.double x1), .second, .val (.double x2), .second, .unset] [(.ref a1)])) (fun t k => ?_) ?_
  · refine XS.aloadN X0.here hx rfl (hb hby d5_0) rfl rfl ?_
    exact k
  obtain ⟨T32, X32, e32, st32⟩ := getF X0 hx hZ hown (host := "") (Or.inl (w_17 hw)) Via.refl e0 F_a1_position (g := (mkF m 1 #[.val (.ref a1), .val (.int 0), .val (.double x1), .second, .val (.double x2), .second, .unset] [(.ref a1)])) rfl rfl (hb hby d5_1)
  refine WP.st st32 ?_
  clear st32
  show WP p.tables e below _ T32 (mkF m 4 #[.val (.ref a1), .val (.int 0), .val (.double x1), .second, .val (.double x2), .second, .unset] [(.ref tp)])
  refine WP.st (T' := T32) (f' := (mkF m 5 #[.val (.ref a1), .val (.int 0), .val (.double x1), .second, .val (.double x2), .second, .unset] [(.int 0), (.ref tp)])) (fun t k => ?_) ?_
  · refine XS.iloadN X32.here hx rfl (hb hby d5_4) rfl ?_
    exact k
  obtain ⟨cl33, Ar33, hin33, hat33, -⟩ := V_tp.rd (j := (0 : Int32)) ⟨by decide, by decide⟩
  replace hat33 : cl33.slots[((0 : Int32)).toNatClampNeg]? = some (.int 0) := hat33
  refine WP.st (T' := T32) (f' := (mkF m 8 #[.val (.ref a1), .val (.int 0), .val (.double x1), .second, .val (.double x2), .second, .unset] [(.int ((0 : Int32) - (1 : Int32)))])) (fun t k => ?_) ?_
  · refine X32.iaload hx (j := (0 : Int32)) (v := (.int 0)) (by rw [e32]; exact Ar33.1) (State.isArrayOf_alike hZ.alike Ar33.2.1) Ar33.2.2 hin33 hat33 (g := (mkF m 5 #[.val (.ref a1), .val (.int 0), .val (.double x1), .second, .val (.double x2), .second, .unset] [(.int 0), (.ref tp)])) rfl rfl (hb hby d5_5) _ ?_
    refine XS.iconst X32.here hx rfl (hb hby d5_6) ?_
    refine XS.isub X32.here hx rfl (hb hby d5_7) rfl ?_
    exact k
  rw [show ((0 : Int32) - (1 : Int32)) = (-1 : Int32) from by decide]
  show WP p.tables e below _ T32 (mkF m 8 #[.val (.ref a1), .val (.int 0), .val (.double x1), .second, .val (.double x2), .second, .unset] [(.int (-1))])
  refine WP.st (T' := T32) (f' := (mkF m 22 #[.val (.ref a1), .val (.int 0), .val (.double x1), .second, .val (.double x2), .second, .val (.int (-1))] [(.ref a1), (.ref a1), (.double x2), (.double x1), (.int 0), (.ref a1)])) (fun t k => ?_) ?_
  · refine XS.istore X32.here hx rfl (hb hby d5_8) rfl (l' := #[.val (.ref a1), .val (.int 0), .val (.double x1), .second, .val (.double x2), .second, .val (.int (-1))]) rfl ?_
    refine XS.iload X32.here hx rfl (hb hby d5_10) rfl ?_
    refine XS.ifNo X32.here hx rfl (hb hby d5_12) rfl ((if0 _ _).trans (tlt (by decide : (-1 : Int32) < (0 : Int32))).2.1) ?_
    refine XS.aloadN X32.here hx rfl (hb hby d5_15) rfl rfl ?_
    refine XS.iloadN X32.here hx rfl (hb hby d5_16) rfl ?_
    refine XS.dloadN X32.here hx rfl (hb hby d5_17) rfl ?_
    refine XS.dload X32.here hx rfl (hb hby d5_18) rfl ?_
    refine XS.aloadN X32.here hx rfl (hb hby d5_20) rfl rfl ?_
    show Steps p.tables e below (T32.setTop (mkF m 21 #[.val (.ref a1), .val (.int 0), .val (.double x1), .second, .val (.double x2), .second, .val (.int (-1))] [(.ref a1), (.double x2), (.double x1), (.int 0), (.ref a1)])) t
    refine XS.dup X32.here hx rfl (hb hby d5_21) rfl rfl ?_
    exact k
  obtain ⟨T34, X34, e34, st34⟩ := getF X32 hx hZ hown (host := "") (Or.inl (w_24 hw)) Via.refl e32 F_a1_size (g := (mkF m 22 #[.val (.ref a1), .val (.int 0), .val (.double x1), .second, .val (.double x2), .second, .val (.int (-1))] [(.ref a1), (.ref a1), (.double x2), (.double x1), (.int 0), (.ref a1)])) rfl rfl (hb hby d5_22)
  refine WP.st st34 ?_
  clear st34
  show WP p.tables e below _ T34 (mkF m 25 #[.val (.ref a1), .val (.int 0), .val (.double x1), .second, .val (.double x2), .second, .val (.int (-1))] [(.int 0), (.ref a1), (.double x2), (.double x1), (.int 0), (.ref a1)])
  refine WP.st (T' := T34) (f' := (mkF m 28 #[.val (.ref a1), .val (.int 0), .val (.double x1), .second, .val (.double x2), .second, .val (.int (-1))] [(.int ((0 : Int32) + (1 : Int32))), (.ref a1), (.int 0), (.double x2), (.double x1), (.int 0), (.ref a1)])) (fun t k => ?_) ?_
  · refine XS.dupX1 X34.here hx rfl (hb hby d5_25) rfl rfl rfl ?_
    refine XS.iconst X34.here hx rfl (hb hby d5_26) ?_
    refine XS.iadd X34.here hx rfl (hb hby d5_27) rfl ?_
    exact k
  rw [show ((0 : Int32) + (1 : Int32)) = (1 : Int32) from by decide]
  show WP p.tables e below _ T34 (mkF m 28 #[.val (.ref a1), .val (.int 0), .val (.double x1), .second, .val (.double x2), .second, .val (.int (-1))] [(.int 1), (.ref a1), (.int 0), (.double x2), (.double x1), (.int 0), (.ref a1)])
  obtain ⟨T35, h35, X35, e35, W35, st35⟩ := putF X34 hx hZ hown (host := "") (Or.inl (w_24 hw)) Via.refl e34 F_a1_size E_a1 (Or.inl (w_25 hw)) (w_1 hw) (ty := .int) (by decide) rfl rfl (g := (mkF m 28 #[.val (.ref a1), .val (.int 0), .val (.double x1), .second, .val (.double x2), .second, .val (.int (-1))] [(.int 1), (.ref a1), (.int 0), (.double x2), (.double x1), (.int 0), (.ref a1)])) rfl rfl (hb hby d5_28)
  refine WP.st st35 ?_
  clear st35
  replace E_a1 := E_a1.wr W35
  replace F_a1_nodes := F_a1_nodes.other W35 (Or.inr (sn_16 hw))
  replace F_a1_seconds := F_a1_seconds.other W35 (Or.inr (sn_17 hw))
  replace F_a1_metres := F_a1_metres.other W35 (Or.inr (sn_18 hw))
  replace F_a1_position := F_a1_position.other W35 (Or.inr (sn_19 hw))
  replace F_a1_size := F_a1_size.same W35
  replace V_tn := V_tn.other W35 (Ne.symm ne_a1_tn)
  replace V_ts := V_ts.other W35 (Ne.symm ne_a1_ts)
  replace V_tm := V_tm.other W35 (Ne.symm ne_a1_tm)
  replace V_tp := V_tp.other W35 (Ne.symm ne_a1_tp)
  replace Z0 := Nat.le_trans Z0 (Keep.of_wr W35).1
  replace KP := KP.wr W35 (Or.inl (List.mem_of_getElem? (i := 0) rfl))
  replace NF := Fr.snoc X35 NF g_a1
  clear W35
  show WP p.tables e below _ T35 (mkF m 31 #[.val (.ref a1), .val (.int 0), .val (.double x1), .second, .val (.double x2), .second, .val (.int (-1))] [(.int 0), (.double x2), (.double x1), (.int 0), (.ref a1)])
  obtain ⟨cq36, q36, q36'⟩ := E_a1.cell
  obtain ⟨_, _, ⟨T36, L36, k36, n36⟩, -, X36, ⟨Lc36, hQ36, l36, y36, z36⟩, st36⟩ := X35.privateBack hx (y := (⟨"com/example/tandemcab/tandemcab/NodeQueue", "up", "(IDDI)V"⟩ : MethodName)) hown (mvT hZ (w_37 hw)) (mvT hZ (w_38 hw)) (ownSel (y := (⟨"com/example/tandemcab/tandemcab/NodeQueue", "up", "(IDDI)V"⟩ : MethodName)) (mvT hZ (w_22 hw)) rfl (Cond.privateMethod_at (mvP hZ (w_39 hw) (args := #[]))) (mvT hZ (w_38 hw)) (by decide)) (Cond.privateMethod_at (mvP hZ (w_39 hw) (args := #[]))) (mvT hZ (w_40 hw)) (by decide) (backOf (W := 0) (rm6t1 l Z a0 hw [] a1 x1 x2 tn ts tm tp kn ks km kp nd0 nd1 nd2 s0 s1 s2 m0 m1 m2 (.int 0) p1 p2 (1 : Int32) h35 n0 Z0 E_a1 F_a1_nodes F_a1_seconds F_a1_metres F_a1_position F_a1_size V_tn V_ts V_tm V_tp g_a1 g_tn g_ts g_tm g_tp ne_a1_tn ne_a1_ts ne_a1_tm ne_a1_tp ne_tn_ts ne_tn_tm ne_tn_tp ne_ts_tm ne_ts_tp ne_tm_tp) hZ (w_40 hw) (w_2 hw) (by decide) (by decide)) (g := (mkF m 31 #[.val (.ref a1), .val (.int 0), .val (.double x1), .second, .val (.double x2), .second, .val (.int (-1))] [(.int 0), (.double x2), (.double x1), (.int 0), (.ref a1)])) rfl (by rw [hml]; rfl) (Steps.refl _) (a := a1) (by rw [e35]; exact q36) q36' (argsL := [(.int 0), (.double x1), (.double x2), (.int 0)]) (rest := []) (lenOf pd_2 rfl) rfl (by show 2 * 0 + _ ≤ _; exact Nat.le_of_eq rfl) (hb hby d5_31) (fun _ _ => ⟨rfl, e35, (by decide : 0 + 0 ≤ _), (by decide : 0 + 0 ≤ _)⟩)
  dsimp only [Pt.U, Pt.locs, Pt.cells, Pt.slots] at X36 l36 y36 z36 st36 hQ36
  subst l36 y36 z36
  obtain ⟨rfl, Nq36, Kq36, nF36_a1_nodes, nF36_a1_seconds, nF36_a1_metres, nF36_a1_position, nF36_a1_size, nA36_tn, nA36_ts, nA36_tm, nA36_tp⟩ := hQ36
  replace NF := Fr.app NF Nq36
  clear Nq36
  refine WP.tr st36 ?_
  clear st36
  obtain ⟨h36, e36⟩ : ∃ h, T36.heap = h := ⟨_, rfl⟩
  rw [e36] at Kq36 nF36_a1_nodes nF36_a1_seconds nF36_a1_metres nF36_a1_position nF36_a1_size nA36_tn nA36_ts nA36_tm nA36_tp
  replace E_a1 := E_a1.keep Kq36
  clear F_a1_nodes
  clear F_a1_seconds
  clear F_a1_metres
  clear F_a1_position
  clear F_a1_size
  clear V_tn
  clear V_ts
  clear V_tm
  clear V_tp
  replace Z0 := Nat.le_trans Z0 Kq36.1
  replace KP := KP.trans Kq36 (allS (Or.inl (List.mem_of_getElem? (i := 0) rfl)) (allS (Or.inl (List.mem_of_getElem? (i := 1) rfl)) (allS (Or.inl (List.mem_of_getElem? (i := 2) rfl)) (allS (Or.inl (List.mem_of_getElem? (i := 3) rfl)) (allS (Or.inl (List.mem_of_getElem? (i := 4) rfl)) all0)))))
  clear Kq36
  have F_a1_nodes := nF36_a1_nodes
  clear nF36_a1_nodes
  have F_a1_seconds := nF36_a1_seconds
  clear nF36_a1_seconds
  have F_a1_metres := nF36_a1_metres
  clear nF36_a1_metres
  have F_a1_position := nF36_a1_position
  clear nF36_a1_position
  have F_a1_size := nF36_a1_size
  clear nF36_a1_size
  have V_tn := nA36_tn
  clear nA36_tn
  have V_ts := nA36_ts
  clear nA36_ts
  have V_tm := nA36_tm
  clear nA36_tm
  have V_tp := nA36_tp
  clear nA36_tp
  show WP p.tables e below _ T36 (mkF m 34 #[.val (.ref a1), .val (.int 0), .val (.double x1), .second, .val (.double x2), .second, .val (.int (-1))] [])
  refine WP.st (T' := T36) (f' := (mkF m 83 #[.val (.ref a1), .val (.int 0), .val (.double x1), .second, .val (.double x2), .second, .val (.int (-1))] [])) (fun t k => ?_) ?_
  · refine XS.goto X36.here hx rfl (pc0 := 34) (pc' := 83) rfl (hb hby d5_34) (by decide) (by decide) ?_
    exact k
  subst hG
  obtain ⟨fs, hr, hrun, hended, hW, hsame⟩ := X36.leave (v := none) (fun _ => rfl)
  refine WP.fin ⟨_, _, ?_, hrun, hended, _, _, rfl, ?_, ⟨_, rfl⟩, hW, hsame.mono (by decide) (by decide)⟩
  · exact X36.returnOut hx Bd.returns (hb hby d5_83) hr
  · show Q5t0 Z a1 x1 x2 tn ts tm tp kn ks km kp nd0 nd1 nd2 s0 s1 s2 m0 m1 m2 p1 p2 h0 n0 _ T36.heap _
    rw [e36]
    exact ⟨rfl, NF, KP, F_a1_nodes, F_a1_seconds, F_a1_metres, F_a1_position, F_a1_size, V_tn, V_ts, V_tm, V_tp⟩
theorem w_32 {a0 : Array Value} {Z : State} (hw : ∀ d ∈ tables_1, d.before a0 Z = true) : (Jvm.Cond.methodLink "com/example/tandemcab/tandemcab/NodeQueueClearPinLaw" (12 : Nat) ({ cls := "com/example/tandemcab/tandemcab/NodeQueue", name := "offer", desc := "(IDD)V" } : Jvm.MethodName)).before a0 Z = true := hw _ (List.mem_of_getElem? (i := 32) rfl)
theorem w_36 {a0 : Array Value} {Z : State} (hw : ∀ d ∈ tables_1, d.before a0 Z = true) : (Jvm.Cond.code ({ cls := "com/example/tandemcab/tandemcab/NodeQueue", name := "offer", desc := "(IDD)V" } : Jvm.MethodName) prog_49_method_5_code (7 : Nat) (Option.none : Option Jvm.ClassFile.FieldType)).before a0 Z = true := hw _ (List.mem_of_getElem? (i := 36) rfl)
theorem pd_3 : parseMethodDescriptor "(IDD)V" = some ⟨[.int, .double, .double], none⟩ := by decide +kernel
theorem w_35 {a0 : Array Value} {Z : State} (hw : ∀ d ∈ tables_1, d.before a0 Z = true) : (Jvm.Cond.selects "com/example/tandemcab/tandemcab/NodeQueue" ({ cls := "com/example/tandemcab/tandemcab/NodeQueue", name := "offer", desc := "(IDD)V" } : Jvm.MethodName) ({ cls := "com/example/tandemcab/tandemcab/NodeQueue", name := "offer", desc := "(IDD)V" } : Jvm.MethodName)).before a0 Z = true := hw _ (List.mem_of_getElem? (i := 35) rfl)
theorem w_33 {a0 : Array Value} {Z : State} (hw : ∀ d ∈ tables_1, d.before a0 Z = true) : (Jvm.Cond.declares ({ cls := "com/example/tandemcab/tandemcab/NodeQueue", name := "offer", desc := "(IDD)V" } : Jvm.MethodName)).before a0 Z = true := hw _ (List.mem_of_getElem? (i := 33) rfl)
theorem w_34 {a0 : Array Value} {Z : State} (hw : ∀ d ∈ tables_1, d.before a0 Z = true) : (Jvm.Cond.instanceMethod ({ cls := "com/example/tandemcab/tandemcab/NodeQueue", name := "offer", desc := "(IDD)V" } : Jvm.MethodName)).before a0 Z = true := hw _ (List.mem_of_getElem? (i := 34) rfl)
theorem w_45 {a0 : Array Value} {Z : State} (hw : ∀ d ∈ tables_1, d.before a0 Z = true) : (Jvm.Cond.constantDouble "com/example/tandemcab/tandemcab/NodeQueueClearPinLaw" (25 : Nat) (4611686018427387904 : UInt64)).before a0 Z = true := hw _ (List.mem_of_getElem? (i := 45) rfl)
theorem ef_7t6 (m : MethodId) (z0 : Addr) (z2 : UInt64) (z3 : UInt64) : entryFrame m #[(.ref z0), (.int 0), (.double z2), (.double z3), (.int 1)] 7 = mkF m 0 #[.val (.ref z0), .val (.int 0), .val (.double z2), .second, .val (.double z3), .second, .val (.int 1)] [] := by
  all_goals first | (simp [entryFrame, mkF, argsToLocals, Value.category]; done) | rfl
def Q7t6 (Z : State) (a1 : Addr) (x1 : UInt64) (x2 : UInt64) (tn : Addr) (ts : Addr) (tm : Addr) (tp : Addr) (kn : ClassId) (ks : ClassId) (km : ClassId) (kp : ClassId) (nd0 : Value) (nd1 : Value) (nd2 : Value) (s0 : Value) (s1 : Value) (s2 : Value) (m0 : Value) (m1 : Value) (m2 : Value) (p0 : Value) (p1 : Value) (p2 : Value) (u_size : Int32) (h0 : Heap) (n0 : Nat) (v : Option Value) (h : Heap) (L : List Loc) : Prop := v = none ∧ Fr n0 L ∧ Keep h0 h [a1, tn, ts, tm, tp] ∧ Fld Z h a1 "com/example/tandemcab/tandemcab/NodeQueue" "nodes" "[I" (.ref tn) ∧ Fld Z h a1 "com/example/tandemcab/tandemcab/NodeQueue" "seconds" "[D" (.ref ts) ∧ Fld Z h a1 "com/example/tandemcab/tandemcab/NodeQueue" "metres" "[D" (.ref tm) ∧ Fld Z h a1 "com/example/tandemcab/tandemcab/NodeQueue" "position" "[I" (.ref tp) ∧ Fld Z h a1 "com/example/tandemcab/tandemcab/NodeQueue" "size" "I" (.int u_size) ∧ (Arv Z h tn kn .int (3 : Int32) [nd0, (.int 0), nd2] (.int 0)) ∧ (Arv Z h ts ks .double (3 : Int32) [s0, (.double x1), s2] (.double 0)) ∧ (Arv Z h tm km .double (3 : Int32) [m0, (.double x2), m2] (.double 0)) ∧ (Arv Z h tp kp .int (3 : Int32) [(.int 2), p1, p2] (.int 0))
set_option maxRecDepth 65536 in
set_option maxHeartbeats 40000000 in
theorem rm7t6 (l : Launch) (Z : State) (a0 : Array Value) (hw : ∀ d ∈ tables_1, d.before a0 Z = true) (wsC : List Jvm.Cond) (a1 : Addr) (x1 : UInt64) (x2 : UInt64) (tn : Addr) (ts : Addr) (tm : Addr) (tp : Addr) (kn : ClassId) (ks : ClassId) (km : ClassId) (kp : ClassId) (nd0 : Value) (nd1 : Value) (nd2 : Value) (s0 : Value) (s1 : Value) (s2 : Value) (m0 : Value) (m1 : Value) (m2 : Value) (p0 : Value) (p1 : Value) (p2 : Value) (u_size : Int32) (h0 : Heap) (n0 : Nat) (Z0 : n0 ≤ h0.size) (E_a1 : Exa Z h0 a1 "com/example/tandemcab/tandemcab/NodeQueue") (F_a1_nodes : Fld Z h0 a1 "com/example/tandemcab/tandemcab/NodeQueue" "nodes" "[I" (.ref tn)) (F_a1_seconds : Fld Z h0 a1 "com/example/tandemcab/tandemcab/NodeQueue" "seconds" "[D" (.ref ts)) (F_a1_metres : Fld Z h0 a1 "com/example/tandemcab/tandemcab/NodeQueue" "metres" "[D" (.ref tm)) (F_a1_position : Fld Z h0 a1 "com/example/tandemcab/tandemcab/NodeQueue" "position" "[I" (.ref tp)) (F_a1_size : Fld Z h0 a1 "com/example/tandemcab/tandemcab/NodeQueue" "size" "I" (.int u_size)) (V_tn : Arv Z h0 tn kn .int (3 : Int32) [nd0, nd1, nd2] (.int 0)) (V_ts : Arv Z h0 ts ks .double (3 : Int32) [s0, s1, s2] (.double 0)) (V_tm : Arv Z h0 tm km .double (3 : Int32) [m0, m1, m2] (.double 0)) (V_tp : Arv Z h0 tp kp .int (3 : Int32) [p0, p1, p2] (.int 0)) (g_a1 : n0 ≤ a1) (g_tn : n0 ≤ tn) (g_ts : n0 ≤ ts) (g_tm : n0 ≤ tm) (g_tp : n0 ≤ tp) (ne_a1_tn : a1 ≠ tn) (ne_a1_ts : a1 ≠ ts) (ne_a1_tm : a1 ≠ tm) (ne_a1_tp : a1 ≠ tp) (ne_tn_ts : tn ≠ ts) (ne_tn_tm : tn ≠ tm) (ne_tn_tp : tn ≠ tp) (ne_ts_tm : ts ≠ tm) (ne_ts_tp : ts ≠ tp) (ne_tm_tp : tm ≠ tp) :
    MetFree l (⟨"com/example/tandemcab/tandemcab/NodeQueue", "place", "(IDDI)V"⟩ : MethodName) (head1 (Jvm.Cond.code (⟨"com/example/tandemcab/tandemcab/NodeQueue", "place", "(IDDI)V"⟩ : MethodName) prog_49_method_10_code 7 none :: wsC) ({ frames := 0, cells := 0, slots := 0, locals := 0 } : Room)) (fun a U => a = #[(.ref a1), (.int 0), (.double x1), (.double x2), (.int 1)] ∧ Z.Warmed39 U.vm ∧ U.heap = h0) (fun _ _ _ _ _ => True) (fun _ U o U' => ∃ v L, o = .returned v ∧ Q7t6 Z a1 x1 x2 tn ts tm tp kn ks km kp nd0 nd1 nd2 s0 s1 s2 m0 m1 m2 p0 p1 p2 u_size h0 n0 v U'.heap L ∧ FrameEnd U o U' L ({ frames := 0, cells := 0, slots := 0, locals := 0 } : Room).cells ({ frames := 0, cells := 0, slots := 0, locals := 0 } : Room).slots) := by
  refine MetFree.of_bodySF (plainFor_of_name pn_0) hisR ?_
  intro p e s m args below meth c s₁ Bd hml0 hP hK
  obtain ⟨rfl, hZ, hh⟩ := hP
  have hx := Bd.exec
  have hby := Bd.bytes
  have hml : c.maxLocals = 7 := hml0
  have hown : s.vm.findClass "com/example/tandemcab/tandemcab/NodeQueue" = some m.cls := findClass_of_methodNamed Bd.named
  have hnm := (name_of_methodNamed Bd.named Bd.method).1
  have X0 : Stand p l e ({ frames := 0, cells := 0, slots := 0, locals := 0 } : Room) s m #[(.ref a1), (.int 0), (.double x1), (.double x2), (.int 1)] below meth c s₁ [] 0 0 := Stand.of_body Bd
  have e0 : s₁.heap = h0 := by rw [← hh, Bd.state]; rfl
  have NF := Fr.nil n0
  have KP : Keep h0 h0 [a1, tn, ts, tm, tp] := Keep.refl h0 _
  refine WP.go ?_
  refine WP.cast (ef_7t6 m a1 x1 x2) ?_
  refine WP.name ?_
  intro G hG
  refine WP.st (T' := s₁) (f' := (mkF m 1 #[.val (.ref a1), .val (.int 0), .val (.double x1), .second, .val (.double x2), .second, .val (.int 1)] [(.ref a1)])) (fun t k => ?_) ?_
  · refine XS.aloadN X0.here hx rfl (hb hby d7_0) rfl rfl ?_
    exact k
  obtain ⟨T38, X38, e38, st38⟩ := getF X0 hx hZ hown (host := "") (Or.inl (w_10 hw)) Via.refl e0 F_a1_nodes (g := (mkF m 1 #[.val (.ref a1), .val (.int 0), .val (.double x1), .second, .val (.double x2), .second, .val (.int 1)] [(.ref a1)])) rfl rfl (hb hby d7_1)
  refine WP.st st38 ?_
  clear st38
  show WP p.tables e below _ T38 (mkF m 4 #[.val (.ref a1), .val (.int 0), .val (.double x1), .second, .val (.double x2), .second, .val (.int 1)] [(.ref tn)])
  refine WP.st (T' := T38) (f' := (mkF m 7 #[.val (.ref a1), .val (.int 0), .val (.double x1), .second, .val (.double x2), .second, .val (.int 1)] [(.int 0), (.int 1), (.ref tn)])) (fun t k => ?_) ?_
  · refine XS.iload X38.here hx rfl (hb hby d7_4) rfl ?_
    refine XS.iloadN X38.here hx rfl (hb hby d7_6) rfl ?_
    exact k
  obtain ⟨cl39, Ar39, q39, S39, N39, H39, G39⟩ := V_tn
  have hin39 : ¬ ((1 : Int32) < 0 ∨ cl39.slots.size ≤ ((1 : Int32)).toNatClampNeg) := inb_of S39 ⟨by decide, by decide⟩
  obtain ⟨T40, h40, X40, e40, W40, st40⟩ := stI X38 hx hZ e38 Ar39 (j := (1 : Int32)) hin39 (g := (mkF m 7 #[.val (.ref a1), .val (.int 0), .val (.double x1), .second, .val (.double x2), .second, .val (.int 1)] [(.int 0), (.int 1), (.ref tn)])) rfl rfl (hb hby d7_7)
  refine WP.st st40 ?_
  clear st40
  have Vn : Arv Z h40 tn kn .int (3 : Int32) [nd0, (.int 0), nd2] (.int 0) := Arv.set Ar39 q39 S39 N39 H39 G39 rfl W40 1 rfl (Nat.le_of_ble_eq_true rfl)
  replace E_a1 := E_a1.wr W40
  replace F_a1_nodes := F_a1_nodes.other W40 (Or.inl ne_a1_tn)
  replace F_a1_seconds := F_a1_seconds.other W40 (Or.inl ne_a1_tn)
  replace F_a1_metres := F_a1_metres.other W40 (Or.inl ne_a1_tn)
  replace F_a1_position := F_a1_position.other W40 (Or.inl ne_a1_tn)
  replace F_a1_size := F_a1_size.other W40 (Or.inl ne_a1_tn)
  replace V_ts := V_ts.other W40 (Ne.symm ne_tn_ts)
  replace V_tm := V_tm.other W40 (Ne.symm ne_tn_tm)
  replace V_tp := V_tp.other W40 (Ne.symm ne_tn_tp)
  replace Z0 := Nat.le_trans Z0 (Keep.of_wr W40).1
  replace KP := KP.wr W40 (Or.inl (List.mem_of_getElem? (i := 1) rfl))
  replace V_tn := Vn
  replace NF := Fr.snoc X40 NF g_tn
  clear W40 hin39 q39 S39 N39 H39 G39 Ar39
  show WP p.tables e below _ T40 (mkF m 8 #[.val (.ref a1), .val (.int 0), .val (.double x1), .second, .val (.double x2), .second, .val (.int 1)] [])
  refine WP.st (T' := T40) (f' := (mkF m 9 #[.val (.ref a1), .val (.int 0), .val (.double x1), .second, .val (.double x2), .second, .val (.int 1)] [(.ref a1)])) (fun t k => ?_) ?_
  · refine XS.aloadN X40.here hx rfl (hb hby d7_8) rfl rfl ?_
    exact k
  obtain ⟨T41, X41, e41, st41⟩ := getF X40 hx hZ hown (host := "") (Or.inl (w_13 hw)) Via.refl e40 F_a1_seconds (g := (mkF m 9 #[.val (.ref a1), .val (.int 0), .val (.double x1), .second, .val (.double x2), .second, .val (.int 1)] [(.ref a1)])) rfl rfl (hb hby d7_9)
  refine WP.st st41 ?_
  clear st41
  show WP p.tables e below _ T41 (mkF m 12 #[.val (.ref a1), .val (.int 0), .val (.double x1), .second, .val (.double x2), .second, .val (.int 1)] [(.ref ts)])
  refine WP.st (T' := T41) (f' := (mkF m 15 #[.val (.ref a1), .val (.int 0), .val (.double x1), .second, .val (.double x2), .second, .val (.int 1)] [(.double x1), (.int 1), (.ref ts)])) (fun t k => ?_) ?_
  · refine XS.iload X41.here hx rfl (hb hby d7_12) rfl ?_
    refine XS.dloadN X41.here hx rfl (hb hby d7_14) rfl ?_
    exact k
  obtain ⟨cl42, Ar42, q42, S42, N42, H42, G42⟩ := V_ts
  have hin42 : ¬ ((1 : Int32) < 0 ∨ cl42.slots.size ≤ ((1 : Int32)).toNatClampNeg) := inb_of S42 ⟨by decide, by decide⟩
  obtain ⟨T43, h43, X43, e43, W43, st43⟩ := stD X41 hx hZ e41 Ar42 (j := (1 : Int32)) hin42 (g := (mkF m 15 #[.val (.ref a1), .val (.int 0), .val (.double x1), .second, .val (.double x2), .second, .val (.int 1)] [(.double x1), (.int 1), (.ref ts)])) rfl rfl (hb hby d7_15)
  refine WP.st st43 ?_
  clear st43
  have Vn : Arv Z h43 ts ks .double (3 : Int32) [s0, (.double x1), s2] (.double 0) := Arv.set Ar42 q42 S42 N42 H42 G42 rfl W43 1 rfl (Nat.le_of_ble_eq_true rfl)
  replace E_a1 := E_a1.wr W43
  replace F_a1_nodes := F_a1_nodes.other W43 (Or.inl ne_a1_ts)
  replace F_a1_seconds := F_a1_seconds.other W43 (Or.inl ne_a1_ts)
  replace F_a1_metres := F_a1_metres.other W43 (Or.inl ne_a1_ts)
  replace F_a1_position := F_a1_position.other W43 (Or.inl ne_a1_ts)
  replace F_a1_size := F_a1_size.other W43 (Or.inl ne_a1_ts)
  replace V_tm := V_tm.other W43 (Ne.symm ne_ts_tm)
  replace V_tp := V_tp.other W43 (Ne.symm ne_ts_tp)
  replace V_tn := V_tn.other W43 ne_tn_ts
  replace Z0 := Nat.le_trans Z0 (Keep.of_wr W43).1
  replace KP := KP.wr W43 (Or.inl (List.mem_of_getElem? (i := 2) rfl))
  replace V_ts := Vn
  replace NF := Fr.snoc X43 NF g_ts
  clear W43 hin42 q42 S42 N42 H42 G42 Ar42
  show WP p.tables e below _ T43 (mkF m 16 #[.val (.ref a1), .val (.int 0), .val (.double x1), .second, .val (.double x2), .second, .val (.int 1)] [])
  refine WP.st (T' := T43) (f' := (mkF m 17 #[.val (.ref a1), .val (.int 0), .val (.double x1), .second, .val (.double x2), .second, .val (.int 1)] [(.ref a1)])) (fun t k => ?_) ?_
  · refine XS.aloadN X43.here hx rfl (hb hby d7_16) rfl rfl ?_
    exact k
  obtain ⟨T44, X44, e44, st44⟩ := getF X43 hx hZ hown (host := "") (Or.inl (w_15 hw)) Via.refl e43 F_a1_metres (g := (mkF m 17 #[.val (.ref a1), .val (.int 0), .val (.double x1), .second, .val (.double x2), .second, .val (.int 1)] [(.ref a1)])) rfl rfl (hb hby d7_17)
  refine WP.st st44 ?_
  clear st44
  show WP p.tables e below _ T44 (mkF m 20 #[.val (.ref a1), .val (.int 0), .val (.double x1), .second, .val (.double x2), .second, .val (.int 1)] [(.ref tm)])
  refine WP.st (T' := T44) (f' := (mkF m 24 #[.val (.ref a1), .val (.int 0), .val (.double x1), .second, .val (.double x2), .second, .val (.int 1)] [(.double x2), (.int 1), (.ref tm)])) (fun t k => ?_) ?_
  · refine XS.iload X44.here hx rfl (hb hby d7_20) rfl ?_
    refine XS.dload X44.here hx rfl (hb hby d7_22) rfl ?_
    exact k
  obtain ⟨cl45, Ar45, q45, S45, N45, H45, G45⟩ := V_tm
  have hin45 : ¬ ((1 : Int32) < 0 ∨ cl45.slots.size ≤ ((1 : Int32)).toNatClampNeg) := inb_of S45 ⟨by decide, by decide⟩
  obtain ⟨T46, h46, X46, e46, W46, st46⟩ := stD X44 hx hZ e44 Ar45 (j := (1 : Int32)) hin45 (g := (mkF m 24 #[.val (.ref a1), .val (.int 0), .val (.double x1), .second, .val (.double x2), .second, .val (.int 1)] [(.double x2), (.int 1), (.ref tm)])) rfl rfl (hb hby d7_24)
  refine WP.st st46 ?_
  clear st46
  have Vn : Arv Z h46 tm km .double (3 : Int32) [m0, (.double x2), m2] (.double 0) := Arv.set Ar45 q45 S45 N45 H45 G45 rfl W46 1 rfl (Nat.le_of_ble_eq_true rfl)
  replace E_a1 := E_a1.wr W46
  replace F_a1_nodes := F_a1_nodes.other W46 (Or.inl ne_a1_tm)
  replace F_a1_seconds := F_a1_seconds.other W46 (Or.inl ne_a1_tm)
  replace F_a1_metres := F_a1_metres.other W46 (Or.inl ne_a1_tm)
  replace F_a1_position := F_a1_position.other W46 (Or.inl ne_a1_tm)
  replace F_a1_size := F_a1_size.other W46 (Or.inl ne_a1_tm)
  replace V_tp := V_tp.other W46 (Ne.symm ne_tm_tp)
  replace V_tn := V_tn.other W46 ne_tn_tm
  replace V_ts := V_ts.other W46 ne_ts_tm
  replace Z0 := Nat.le_trans Z0 (Keep.of_wr W46).1
  replace KP := KP.wr W46 (Or.inl (List.mem_of_getElem? (i := 3) rfl))
  replace V_tm := Vn
  replace NF := Fr.snoc X46 NF g_tm
  clear W46 hin45 q45 S45 N45 H45 G45 Ar45
  show WP p.tables e below _ T46 (mkF m 25 #[.val (.ref a1), .val (.int 0), .val (.double x1), .second, .val (.double x2), .second, .val (.int 1)] [])
  refine WP.st (T' := T46) (f' := (mkF m 26 #[.val (.ref a1), .val (.int 0), .val (.double x1), .second, .val (.double x2), .second, .val (.int 1)] [(.ref a1)])) (fun t k => ?_) ?_
  · refine XS.aloadN X46.here hx rfl (hb hby d7_25) rfl rfl ?_
    exact k
  obtain ⟨T47, X47, e47, st47⟩ := getF X46 hx hZ hown (host := "") (Or.inl (w_17 hw)) Via.refl e46 F_a1_position (g := (mkF m 26 #[.val (.ref a1), .val (.int 0), .val (.double x1), .second, .val (.double x2), .second, .val (.int 1)] [(.ref a1)])) rfl rfl (hb hby d7_26)
  refine WP.st st47 ?_
  clear st47
  show WP p.tables e below _ T47 (mkF m 29 #[.val (.ref a1), .val (.int 0), .val (.double x1), .second, .val (.double x2), .second, .val (.int 1)] [(.ref tp)])
  refine WP.st (T' := T47) (f' := (mkF m 34 #[.val (.ref a1), .val (.int 0), .val (.double x1), .second, .val (.double x2), .second, .val (.int 1)] [(.int ((1 : Int32) + (1 : Int32))), (.int 0), (.ref tp)])) (fun t k => ?_) ?_
  · refine XS.iloadN X47.here hx rfl (hb hby d7_29) rfl ?_
    refine XS.iload X47.here hx rfl (hb hby d7_30) rfl ?_
    refine XS.iconst X47.here hx rfl (hb hby d7_32) ?_
    refine XS.iadd X47.here hx rfl (hb hby d7_33) rfl ?_
    exact k
  rw [show ((1 : Int32) + (1 : Int32)) = (2 : Int32) from by decide]
  show WP p.tables e below _ T47 (mkF m 34 #[.val (.ref a1), .val (.int 0), .val (.double x1), .second, .val (.double x2), .second, .val (.int 1)] [(.int 2), (.int 0), (.ref tp)])
  obtain ⟨cl48, Ar48, q48, S48, N48, H48, G48⟩ := V_tp
  have hin48 : ¬ ((0 : Int32) < 0 ∨ cl48.slots.size ≤ ((0 : Int32)).toNatClampNeg) := inb_of S48 ⟨by decide, by decide⟩
  obtain ⟨T49, h49, X49, e49, W49, st49⟩ := stI X47 hx hZ e47 Ar48 (j := (0 : Int32)) hin48 (g := (mkF m 34 #[.val (.ref a1), .val (.int 0), .val (.double x1), .second, .val (.double x2), .second, .val (.int 1)] [(.int 2), (.int 0), (.ref tp)])) rfl rfl (hb hby d7_34)
  refine WP.st st49 ?_
  clear st49
  have Vn : Arv Z h49 tp kp .int (3 : Int32) [(.int 2), p1, p2] (.int 0) := Arv.set Ar48 q48 S48 N48 H48 G48 rfl W49 0 rfl (Nat.le_of_ble_eq_true rfl)
  replace E_a1 := E_a1.wr W49
  replace F_a1_nodes := F_a1_nodes.other W49 (Or.inl ne_a1_tp)
  replace F_a1_seconds := F_a1_seconds.other W49 (Or.inl ne_a1_tp)
  replace F_a1_metres := F_a1_metres.other W49 (Or.inl ne_a1_tp)
  replace F_a1_position := F_a1_position.other W49 (Or.inl ne_a1_tp)
  replace F_a1_size := F_a1_size.other W49 (Or.inl ne_a1_tp)
  replace V_tn := V_tn.other W49 ne_tn_tp
  replace V_ts := V_ts.other W49 ne_ts_tp
  replace V_tm := V_tm.other W49 ne_tm_tp
  replace Z0 := Nat.le_trans Z0 (Keep.of_wr W49).1
  replace KP := KP.wr W49 (Or.inl (List.mem_of_getElem? (i := 4) rfl))
  replace V_tp := Vn
  replace NF := Fr.snoc X49 NF g_tp
  clear W49 hin48 q48 S48 N48 H48 G48 Ar48
  show WP p.tables e below _ T49 (mkF m 35 #[.val (.ref a1), .val (.int 0), .val (.double x1), .second, .val (.double x2), .second, .val (.int 1)] [])
  subst hG
  obtain ⟨fs, hr, hrun, hended, hW, hsame⟩ := X49.leave (v := none) (fun _ => rfl)
  refine WP.fin ⟨_, _, ?_, hrun, hended, _, _, rfl, ?_, ⟨_, rfl⟩, hW, hsame.mono (by decide) (by decide)⟩
  · exact X49.returnOut hx Bd.returns (hb hby d7_35) hr
  · show Q7t6 Z a1 x1 x2 tn ts tm tp kn ks km kp nd0 nd1 nd2 s0 s1 s2 m0 m1 m2 p0 p1 p2 u_size h0 n0 _ T49.heap _
    rw [e49]
    exact ⟨rfl, NF, KP, F_a1_nodes, F_a1_seconds, F_a1_metres, F_a1_position, F_a1_size, V_tn, V_ts, V_tm, V_tp⟩
theorem ef_9t5 (m : MethodId) (z0 : Addr) : entryFrame m #[(.ref z0), (.int 0), (.int 1)] 3 = mkF m 0 #[.val (.ref z0), .val (.int 0), .val (.int 1)] [] := by
  all_goals first | (simp [entryFrame, mkF, argsToLocals, Value.category]; done) | rfl
theorem d9_0 : decode prog_49_method_9_code 0 = .ok (.aload_n 0, 1) := by decide +kernel
theorem d9_1 : decode prog_49_method_9_code 1 = .ok (.aload_n 0, 1) := by decide +kernel
theorem d9_2 : decode prog_49_method_9_code 2 = .ok (.getfield 7, 3) := by decide +kernel
theorem d9_5 : decode prog_49_method_9_code 5 = .ok (.iload_n 1, 1) := by decide +kernel
theorem d9_6 : decode prog_49_method_9_code 6 = .ok (.iaload, 1) := by decide +kernel
theorem d9_7 : decode prog_49_method_9_code 7 = .ok (.aload_n 0, 1) := by decide +kernel
theorem d9_8 : decode prog_49_method_9_code 8 = .ok (.getfield 13, 3) := by decide +kernel
theorem d9_11 : decode prog_49_method_9_code 11 = .ok (.iload_n 1, 1) := by decide +kernel
theorem d9_12 : decode prog_49_method_9_code 12 = .ok (.daload, 1) := by decide +kernel
theorem d9_13 : decode prog_49_method_9_code 13 = .ok (.aload_n 0, 1) := by decide +kernel
theorem d9_14 : decode prog_49_method_9_code 14 = .ok (.getfield 17, 3) := by decide +kernel
theorem d9_17 : decode prog_49_method_9_code 17 = .ok (.iload_n 1, 1) := by decide +kernel
theorem d9_18 : decode prog_49_method_9_code 18 = .ok (.daload, 1) := by decide +kernel
theorem d9_19 : decode prog_49_method_9_code 19 = .ok (.iload_n 2, 1) := by decide +kernel
theorem d9_20 : decode prog_49_method_9_code 20 = .ok (.invokevirtual 42, 3) := by decide +kernel
theorem d9_23 : decode prog_49_method_9_code 23 = .ok (.return_, 1) := by decide +kernel
def Q9t5 (Z : State) (a1 : Addr) (tn : Addr) (ts : Addr) (tm : Addr) (tp : Addr) (kn : ClassId) (ks : ClassId) (km : ClassId) (kp : ClassId) (nd1 : Value) (nd2 : Value) (y1 : UInt64) (s1 : Value) (s2 : Value) (y2 : UInt64) (m1 : Value) (m2 : Value) (p0 : Value) (p1 : Value) (p2 : Value) (u_size : Int32) (h0 : Heap) (n0 : Nat) (v : Option Value) (h : Heap) (L : List Loc) : Prop := v = none ∧ Fr n0 L ∧ Keep h0 h [a1, tn, ts, tm, tp] ∧ Fld Z h a1 "com/example/tandemcab/tandemcab/NodeQueue" "nodes" "[I" (.ref tn) ∧ Fld Z h a1 "com/example/tandemcab/tandemcab/NodeQueue" "seconds" "[D" (.ref ts) ∧ Fld Z h a1 "com/example/tandemcab/tandemcab/NodeQueue" "metres" "[D" (.ref tm) ∧ Fld Z h a1 "com/example/tandemcab/tandemcab/NodeQueue" "position" "[I" (.ref tp) ∧ Fld Z h a1 "com/example/tandemcab/tandemcab/NodeQueue" "size" "I" (.int u_size) ∧ (Arv Z h tn kn .int (3 : Int32) [(.int 0), (.int 0), nd2] (.int 0)) ∧ (Arv Z h ts ks .double (3 : Int32) [(.double y1), (.double y1), s2] (.double 0)) ∧ (Arv Z h tm km .double (3 : Int32) [(.double y2), (.double y2), m2] (.double 0)) ∧ (Arv Z h tp kp .int (3 : Int32) [(.int 2), p1, p2] (.int 0))
set_option maxRecDepth 65536 in
set_option maxHeartbeats 40000000 in
theorem rm9t5 (l : Launch) (Z : State) (a0 : Array Value) (hw : ∀ d ∈ tables_1, d.before a0 Z = true) (wsC : List Jvm.Cond) (a1 : Addr) (tn : Addr) (ts : Addr) (tm : Addr) (tp : Addr) (kn : ClassId) (ks : ClassId) (km : ClassId) (kp : ClassId) (nd1 : Value) (nd2 : Value) (y1 : UInt64) (s1 : Value) (s2 : Value) (y2 : UInt64) (m1 : Value) (m2 : Value) (p0 : Value) (p1 : Value) (p2 : Value) (u_size : Int32) (h0 : Heap) (n0 : Nat) (Z0 : n0 ≤ h0.size) (E_a1 : Exa Z h0 a1 "com/example/tandemcab/tandemcab/NodeQueue") (F_a1_nodes : Fld Z h0 a1 "com/example/tandemcab/tandemcab/NodeQueue" "nodes" "[I" (.ref tn)) (F_a1_seconds : Fld Z h0 a1 "com/example/tandemcab/tandemcab/NodeQueue" "seconds" "[D" (.ref ts)) (F_a1_metres : Fld Z h0 a1 "com/example/tandemcab/tandemcab/NodeQueue" "metres" "[D" (.ref tm)) (F_a1_position : Fld Z h0 a1 "com/example/tandemcab/tandemcab/NodeQueue" "position" "[I" (.ref tp)) (F_a1_size : Fld Z h0 a1 "com/example/tandemcab/tandemcab/NodeQueue" "size" "I" (.int u_size)) (V_tn : Arv Z h0 tn kn .int (3 : Int32) [(.int 0), nd1, nd2] (.int 0)) (V_ts : Arv Z h0 ts ks .double (3 : Int32) [(.double y1), s1, s2] (.double 0)) (V_tm : Arv Z h0 tm km .double (3 : Int32) [(.double y2), m1, m2] (.double 0)) (V_tp : Arv Z h0 tp kp .int (3 : Int32) [p0, p1, p2] (.int 0)) (g_a1 : n0 ≤ a1) (g_tn : n0 ≤ tn) (g_ts : n0 ≤ ts) (g_tm : n0 ≤ tm) (g_tp : n0 ≤ tp) (ne_a1_tn : a1 ≠ tn) (ne_a1_ts : a1 ≠ ts) (ne_a1_tm : a1 ≠ tm) (ne_a1_tp : a1 ≠ tp) (ne_tn_ts : tn ≠ ts) (ne_tn_tm : tn ≠ tm) (ne_tn_tp : tn ≠ tp) (ne_ts_tm : ts ≠ tm) (ne_ts_tp : ts ≠ tp) (ne_tm_tp : tm ≠ tp) :
    MetFree l (⟨"com/example/tandemcab/tandemcab/NodeQueue", "move", "(II)V"⟩ : MethodName) (head1 (Jvm.Cond.code (⟨"com/example/tandemcab/tandemcab/NodeQueue", "move", "(II)V"⟩ : MethodName) prog_49_method_9_code 3 none :: wsC) ({ frames := 1, cells := 0, slots := 0, locals := 18 } : Room)) (fun a U => a = #[(.ref a1), (.int 0), (.int 1)] ∧ Z.Warmed39 U.vm ∧ U.heap = h0) (fun _ _ _ _ _ => True) (fun _ U o U' => ∃ v L, o = .returned v ∧ Q9t5 Z a1 tn ts tm tp kn ks km kp nd1 nd2 y1 s1 s2 y2 m1 m2 p0 p1 p2 u_size h0 n0 v U'.heap L ∧ FrameEnd U o U' L ({ frames := 1, cells := 0, slots := 0, locals := 18 } : Room).cells ({ frames := 1, cells := 0, slots := 0, locals := 18 } : Room).slots) := by
  refine MetFree.of_bodySF (plainFor_of_name pn_0) hisR ?_
  intro p e s m args below meth c s₁ Bd hml0 hP hK
  obtain ⟨rfl, hZ, hh⟩ := hP
  have hx := Bd.exec
  have hby := Bd.bytes
  have hml : c.maxLocals = 3 := hml0
  have hown : s.vm.findClass "com/example/tandemcab/tandemcab/NodeQueue" = some m.cls := findClass_of_methodNamed Bd.named
  have hnm := (name_of_methodNamed Bd.named Bd.method).1
  have X0 : Stand p l e ({ frames := 1, cells := 0, slots := 0, locals := 18 } : Room) s m #[(.ref a1), (.int 0), (.int 1)] below meth c s₁ [] 0 0 := Stand.of_body Bd
  have e0 : s₁.heap = h0 := by rw [← hh, Bd.state]; rfl
  have NF := Fr.nil n0
  have KP : Keep h0 h0 [a1, tn, ts, tm, tp] := Keep.refl h0 _
  refine WP.go ?_
  refine WP.cast (ef_9t5 m a1) ?_
  refine WP.name ?_
  intro G hG
  refine WP.st (T' := s₁) (f' := (mkF m 2 #[.val (.ref a1), .val (.int 0), .val (.int 1)] [(.ref a1), (.ref a1)])) (fun t k => ?_) ?_
  · refine XS.aloadN X0.here hx rfl (hb hby d9_0) rfl rfl ?_
    refine XS.aloadN X0.here hx rfl (hb hby d9_1) rfl rfl ?_
    exact k
  obtain ⟨T50, X50, e50, st50⟩ := getF X0 hx hZ hown (host := "") (Or.inl (w_10 hw)) Via.refl e0 F_a1_nodes (g := (mkF m 2 #[.val (.ref a1), .val (.int 0), .val (.int 1)] [(.ref a1), (.ref a1)])) rfl rfl (hb hby d9_2)
  refine WP.st st50 ?_
  clear st50
  show WP p.tables e below _ T50 (mkF m 5 #[.val (.ref a1), .val (.int 0), .val (.int 1)] [(.ref tn), (.ref a1)])
  refine WP.st (T' := T50) (f' := (mkF m 6 #[.val (.ref a1), .val (.int 0), .val (.int 1)] [(.int 0), (.ref tn), (.ref a1)])) (fun t k => ?_) ?_
  · refine XS.iloadN X50.here hx rfl (hb hby d9_5) rfl ?_
    exact k
  obtain ⟨cl51, Ar51, hin51, hat51, -⟩ := V_tn.rd (j := (0 : Int32)) ⟨by decide, by decide⟩
  replace hat51 : cl51.slots[((0 : Int32)).toNatClampNeg]? = some (.int 0) := hat51
  refine WP.st (T' := T50) (f' := (mkF m 8 #[.val (.ref a1), .val (.int 0), .val (.int 1)] [(.ref a1), (.int 0), (.ref a1)])) (fun t k => ?_) ?_
  · refine X50.iaload hx (j := (0 : Int32)) (v := (.int 0)) (by rw [e50]; exact Ar51.1) (State.isArrayOf_alike hZ.alike Ar51.2.1) Ar51.2.2 hin51 hat51 (g := (mkF m 6 #[.val (.ref a1), .val (.int 0), .val (.int 1)] [(.int 0), (.ref tn), (.ref a1)])) rfl rfl (hb hby d9_6) _ ?_
    refine XS.aloadN X50.here hx rfl (hb hby d9_7) rfl rfl ?_
    exact k
  obtain ⟨T52, X52, e52, st52⟩ := getF X50 hx hZ hown (host := "") (Or.inl (w_13 hw)) Via.refl e50 F_a1_seconds (g := (mkF m 8 #[.val (.ref a1), .val (.int 0), .val (.int 1)] [(.ref a1), (.int 0), (.ref a1)])) rfl rfl (hb hby d9_8)
  refine WP.st st52 ?_
  clear st52
  show WP p.tables e below _ T52 (mkF m 11 #[.val (.ref a1), .val (.int 0), .val (.int 1)] [(.ref ts), (.int 0), (.ref a1)])
  refine WP.st (T' := T52) (f' := (mkF m 12 #[.val (.ref a1), .val (.int 0), .val (.int 1)] [(.int 0), (.ref ts), (.int 0), (.ref a1)])) (fun t k => ?_) ?_
  · refine XS.iloadN X52.here hx rfl (hb hby d9_11) rfl ?_
    exact k
  obtain ⟨cl53, Ar53, hin53, hat53, -⟩ := V_ts.rd (j := (0 : Int32)) ⟨by decide, by decide⟩
  replace hat53 : cl53.slots[((0 : Int32)).toNatClampNeg]? = some (.double y1) := hat53
  refine WP.st (T' := T52) (f' := (mkF m 14 #[.val (.ref a1), .val (.int 0), .val (.int 1)] [(.ref a1), (.double y1), (.int 0), (.ref a1)])) (fun t k => ?_) ?_
  · refine X52.daload hx (j := (0 : Int32)) (v := (.double y1)) (by rw [e52]; exact Ar53.1) (State.isArrayOf_alike hZ.alike Ar53.2.1) Ar53.2.2 hin53 hat53 (g := (mkF m 12 #[.val (.ref a1), .val (.int 0), .val (.int 1)] [(.int 0), (.ref ts), (.int 0), (.ref a1)])) rfl rfl (hb hby d9_12) _ ?_
    refine XS.aloadN X52.here hx rfl (hb hby d9_13) rfl rfl ?_
    exact k
  obtain ⟨T54, X54, e54, st54⟩ := getF X52 hx hZ hown (host := "") (Or.inl (w_15 hw)) Via.refl e52 F_a1_metres (g := (mkF m 14 #[.val (.ref a1), .val (.int 0), .val (.int 1)] [(.ref a1), (.double y1), (.int 0), (.ref a1)])) rfl rfl (hb hby d9_14)
  refine WP.st st54 ?_
  clear st54
  show WP p.tables e below _ T54 (mkF m 17 #[.val (.ref a1), .val (.int 0), .val (.int 1)] [(.ref tm), (.double y1), (.int 0), (.ref a1)])
  refine WP.st (T' := T54) (f' := (mkF m 18 #[.val (.ref a1), .val (.int 0), .val (.int 1)] [(.int 0), (.ref tm), (.double y1), (.int 0), (.ref a1)])) (fun t k => ?_) ?_
  · refine XS.iloadN X54.here hx rfl (hb hby d9_17) rfl ?_
    exact k
  obtain ⟨cl55, Ar55, hin55, hat55, -⟩ := V_tm.rd (j := (0 : Int32)) ⟨by decide, by decide⟩
  replace hat55 : cl55.slots[((0 : Int32)).toNatClampNeg]? = some (.double y2) := hat55
  refine WP.st (T' := T54) (f' := (mkF m 20 #[.val (.ref a1), .val (.int 0), .val (.int 1)] [(.int 1), (.double y2), (.double y1), (.int 0), (.ref a1)])) (fun t k => ?_) ?_
  · refine X54.daload hx (j := (0 : Int32)) (v := (.double y2)) (by rw [e54]; exact Ar55.1) (State.isArrayOf_alike hZ.alike Ar55.2.1) Ar55.2.2 hin55 hat55 (g := (mkF m 18 #[.val (.ref a1), .val (.int 0), .val (.int 1)] [(.int 0), (.ref tm), (.double y1), (.int 0), (.ref a1)])) rfl rfl (hb hby d9_18) _ ?_
    refine XS.iloadN X54.here hx rfl (hb hby d9_19) rfl ?_
    exact k
  obtain ⟨cq56, q56, q56'⟩ := E_a1.cell
  obtain ⟨_, _, ⟨T56, L56, k56, n56⟩, -, X56, ⟨Lc56, hQ56, l56, y56, z56⟩, st56⟩ := X54.privateBack hx (y := (⟨"com/example/tandemcab/tandemcab/NodeQueue", "place", "(IDDI)V"⟩ : MethodName)) hown (mvT hZ (w_41 hw)) (mvT hZ (w_42 hw)) (ownSel (y := (⟨"com/example/tandemcab/tandemcab/NodeQueue", "place", "(IDDI)V"⟩ : MethodName)) (mvT hZ (w_22 hw)) rfl (Cond.privateMethod_at (mvP hZ (w_43 hw) (args := #[]))) (mvT hZ (w_42 hw)) (by decide)) (Cond.privateMethod_at (mvP hZ (w_43 hw) (args := #[]))) (mvT hZ (w_44 hw)) (by decide) (backOf (W := 0) (rm7t6 l Z a0 hw [] a1 y1 y2 tn ts tm tp kn ks km kp (.int 0) nd1 nd2 (.double y1) s1 s2 (.double y2) m1 m2 p0 p1 p2 u_size h0 n0 Z0 E_a1 F_a1_nodes F_a1_seconds F_a1_metres F_a1_position F_a1_size V_tn V_ts V_tm V_tp g_a1 g_tn g_ts g_tm g_tp ne_a1_tn ne_a1_ts ne_a1_tm ne_a1_tp ne_tn_ts ne_tn_tm ne_tn_tp ne_ts_tm ne_ts_tp ne_tm_tp) hZ (w_44 hw) (w_2 hw) (by decide) (by decide)) (g := (mkF m 20 #[.val (.ref a1), .val (.int 0), .val (.int 1)] [(.int 1), (.double y2), (.double y1), (.int 0), (.ref a1)])) rfl (by rw [hml]; rfl) (Steps.refl _) (a := a1) (by rw [e54]; exact q56) q56' (argsL := [(.int 0), (.double y1), (.double y2), (.int 1)]) (rest := []) (lenOf pd_2 rfl) rfl (by show 2 * 0 + _ ≤ _; exact Nat.le_of_eq rfl) (hb hby d9_20) (fun _ _ => ⟨rfl, e54, (by decide : 0 + 0 ≤ _), (by decide : 0 + 0 ≤ _)⟩)
  dsimp only [Pt.U, Pt.locs, Pt.cells, Pt.slots] at X56 l56 y56 z56 st56 hQ56
  subst l56 y56 z56
  obtain ⟨rfl, Nq56, Kq56, nF56_a1_nodes, nF56_a1_seconds, nF56_a1_metres, nF56_a1_position, nF56_a1_size, nA56_tn, nA56_ts, nA56_tm, nA56_tp⟩ := hQ56
  replace NF := Fr.app NF Nq56
  clear Nq56
  refine WP.tr st56 ?_
  clear st56
  obtain ⟨h56, e56⟩ : ∃ h, T56.heap = h := ⟨_, rfl⟩
  rw [e56] at Kq56 nF56_a1_nodes nF56_a1_seconds nF56_a1_metres nF56_a1_position nF56_a1_size nA56_tn nA56_ts nA56_tm nA56_tp
  replace E_a1 := E_a1.keep Kq56
  clear F_a1_nodes
  clear F_a1_seconds
  clear F_a1_metres
  clear F_a1_position
  clear F_a1_size
  clear V_tn
  clear V_ts
  clear V_tm
  clear V_tp
  replace Z0 := Nat.le_trans Z0 Kq56.1
  replace KP := KP.trans Kq56 (allS (Or.inl (List.mem_of_getElem? (i := 0) rfl)) (allS (Or.inl (List.mem_of_getElem? (i := 1) rfl)) (allS (Or.inl (List.mem_of_getElem? (i := 2) rfl)) (allS (Or.inl (List.mem_of_getElem? (i := 3) rfl)) (allS (Or.inl (List.mem_of_getElem? (i := 4) rfl)) all0)))))
  clear Kq56
  have F_a1_nodes := nF56_a1_nodes
  clear nF56_a1_nodes
  have F_a1_seconds := nF56_a1_seconds
  clear nF56_a1_seconds
  have F_a1_metres := nF56_a1_metres
  clear nF56_a1_metres
  have F_a1_position := nF56_a1_position
  clear nF56_a1_position
  have F_a1_size := nF56_a1_size
  clear nF56_a1_size
  have V_tn := nA56_tn
  clear nA56_tn
  have V_ts := nA56_ts
  clear nA56_ts
  have V_tm := nA56_tm
  clear nA56_tm
  have V_tp := nA56_tp
  clear nA56_tp
  show WP p.tables e below _ T56 (mkF m 23 #[.val (.ref a1), .val (.int 0), .val (.int 1)] [])
  subst hG
  obtain ⟨fs, hr, hrun, hended, hW, hsame⟩ := X56.leave (v := none) (fun _ => rfl)
  refine WP.fin ⟨_, _, ?_, hrun, hended, _, _, rfl, ?_, ⟨_, rfl⟩, hW, hsame.mono (by decide) (by decide)⟩
  · exact X56.returnOut hx Bd.returns (hb hby d9_23) hr
  · show Q9t5 Z a1 tn ts tm tp kn ks km kp nd1 nd2 y1 s1 s2 y2 m1 m2 p0 p1 p2 u_size h0 n0 _ T56.heap _
    rw [e56]
    exact ⟨rfl, NF, KP, F_a1_nodes, F_a1_seconds, F_a1_metres, F_a1_position, F_a1_size, V_tn, V_ts, V_tm, V_tp⟩
theorem ef_7t7 (m : MethodId) (z0 : Addr) (z2 : UInt64) (z3 : UInt64) : entryFrame m #[(.ref z0), (.int 1), (.double z2), (.double z3), (.int 0)] 7 = mkF m 0 #[.val (.ref z0), .val (.int 1), .val (.double z2), .second, .val (.double z3), .second, .val (.int 0)] [] := by
  all_goals first | (simp [entryFrame, mkF, argsToLocals, Value.category]; done) | rfl
def Q7t7 (Z : State) (a1 : Addr) (x1 : UInt64) (x2 : UInt64) (tn : Addr) (ts : Addr) (tm : Addr) (tp : Addr) (kn : ClassId) (ks : ClassId) (km : ClassId) (kp : ClassId) (nd0 : Value) (nd1 : Value) (nd2 : Value) (s0 : Value) (s1 : Value) (s2 : Value) (m0 : Value) (m1 : Value) (m2 : Value) (p0 : Value) (p1 : Value) (p2 : Value) (u_size : Int32) (h0 : Heap) (n0 : Nat) (v : Option Value) (h : Heap) (L : List Loc) : Prop := v = none ∧ Fr n0 L ∧ Keep h0 h [a1, tn, ts, tm, tp] ∧ Fld Z h a1 "com/example/tandemcab/tandemcab/NodeQueue" "nodes" "[I" (.ref tn) ∧ Fld Z h a1 "com/example/tandemcab/tandemcab/NodeQueue" "seconds" "[D" (.ref ts) ∧ Fld Z h a1 "com/example/tandemcab/tandemcab/NodeQueue" "metres" "[D" (.ref tm) ∧ Fld Z h a1 "com/example/tandemcab/tandemcab/NodeQueue" "position" "[I" (.ref tp) ∧ Fld Z h a1 "com/example/tandemcab/tandemcab/NodeQueue" "size" "I" (.int u_size) ∧ (Arv Z h tn kn .int (3 : Int32) [(.int 1), nd1, nd2] (.int 0)) ∧ (Arv Z h ts ks .double (3 : Int32) [(.double x1), s1, s2] (.double 0)) ∧ (Arv Z h tm km .double (3 : Int32) [(.double x2), m1, m2] (.double 0)) ∧ (Arv Z h tp kp .int (3 : Int32) [p0, (.int 1), p2] (.int 0))
set_option maxRecDepth 65536 in
set_option maxHeartbeats 40000000 in
theorem rm7t7 (l : Launch) (Z : State) (a0 : Array Value) (hw : ∀ d ∈ tables_1, d.before a0 Z = true) (wsC : List Jvm.Cond) (a1 : Addr) (x1 : UInt64) (x2 : UInt64) (tn : Addr) (ts : Addr) (tm : Addr) (tp : Addr) (kn : ClassId) (ks : ClassId) (km : ClassId) (kp : ClassId) (nd0 : Value) (nd1 : Value) (nd2 : Value) (s0 : Value) (s1 : Value) (s2 : Value) (m0 : Value) (m1 : Value) (m2 : Value) (p0 : Value) (p1 : Value) (p2 : Value) (u_size : Int32) (h0 : Heap) (n0 : Nat) (Z0 : n0 ≤ h0.size) (E_a1 : Exa Z h0 a1 "com/example/tandemcab/tandemcab/NodeQueue") (F_a1_nodes : Fld Z h0 a1 "com/example/tandemcab/tandemcab/NodeQueue" "nodes" "[I" (.ref tn)) (F_a1_seconds : Fld Z h0 a1 "com/example/tandemcab/tandemcab/NodeQueue" "seconds" "[D" (.ref ts)) (F_a1_metres : Fld Z h0 a1 "com/example/tandemcab/tandemcab/NodeQueue" "metres" "[D" (.ref tm)) (F_a1_position : Fld Z h0 a1 "com/example/tandemcab/tandemcab/NodeQueue" "position" "[I" (.ref tp)) (F_a1_size : Fld Z h0 a1 "com/example/tandemcab/tandemcab/NodeQueue" "size" "I" (.int u_size)) (V_tn : Arv Z h0 tn kn .int (3 : Int32) [nd0, nd1, nd2] (.int 0)) (V_ts : Arv Z h0 ts ks .double (3 : Int32) [s0, s1, s2] (.double 0)) (V_tm : Arv Z h0 tm km .double (3 : Int32) [m0, m1, m2] (.double 0)) (V_tp : Arv Z h0 tp kp .int (3 : Int32) [p0, p1, p2] (.int 0)) (g_a1 : n0 ≤ a1) (g_tn : n0 ≤ tn) (g_ts : n0 ≤ ts) (g_tm : n0 ≤ tm) (g_tp : n0 ≤ tp) (ne_a1_tn : a1 ≠ tn) (ne_a1_ts : a1 ≠ ts) (ne_a1_tm : a1 ≠ tm) (ne_a1_tp : a1 ≠ tp) (ne_tn_ts : tn ≠ ts) (ne_tn_tm : tn ≠ tm) (ne_tn_tp : tn ≠ tp) (ne_ts_tm : ts ≠ tm) (ne_ts_tp : ts ≠ tp) (ne_tm_tp : tm ≠ tp) :
    MetFree l (⟨"com/example/tandemcab/tandemcab/NodeQueue", "place", "(IDDI)V"⟩ : MethodName) (head1 (Jvm.Cond.code (⟨"com/example/tandemcab/tandemcab/NodeQueue", "place", "(IDDI)V"⟩ : MethodName) prog_49_method_10_code 7 none :: wsC) ({ frames := 0, cells := 0, slots := 0, locals := 0 } : Room)) (fun a U => a = #[(.ref a1), (.int 1), (.double x1), (.double x2), (.int 0)] ∧ Z.Warmed39 U.vm ∧ U.heap = h0) (fun _ _ _ _ _ => True) (fun _ U o U' => ∃ v L, o = .returned v ∧ Q7t7 Z a1 x1 x2 tn ts tm tp kn ks km kp nd0 nd1 nd2 s0 s1 s2 m0 m1 m2 p0 p1 p2 u_size h0 n0 v U'.heap L ∧ FrameEnd U o U' L ({ frames := 0, cells := 0, slots := 0, locals := 0 } : Room).cells ({ frames := 0, cells := 0, slots := 0, locals := 0 } : Room).slots) := by
  refine MetFree.of_bodySF (plainFor_of_name pn_0) hisR ?_
  intro p e s m args below meth c s₁ Bd hml0 hP hK
  obtain ⟨rfl, hZ, hh⟩ := hP
  have hx := Bd.exec
  have hby := Bd.bytes
  have hml : c.maxLocals = 7 := hml0
  have hown : s.vm.findClass "com/example/tandemcab/tandemcab/NodeQueue" = some m.cls := findClass_of_methodNamed Bd.named
  have hnm := (name_of_methodNamed Bd.named Bd.method).1
  have X0 : Stand p l e ({ frames := 0, cells := 0, slots := 0, locals := 0 } : Room) s m #[(.ref a1), (.int 1), (.double x1), (.double x2), (.int 0)] below meth c s₁ [] 0 0 := Stand.of_body Bd
  have e0 : s₁.heap = h0 := by rw [← hh, Bd.state]; rfl
  have NF := Fr.nil n0
  have KP : Keep h0 h0 [a1, tn, ts, tm, tp] := Keep.refl h0 _
  refine WP.go ?_
  refine WP.cast (ef_7t7 m a1 x1 x2) ?_
  refine WP.name ?_
  intro G hG
  refine WP.st (T' := s₁) (f' := (mkF m 1 #[.val (.ref a1), .val (.int 1), .val (.double x1), .second, .val (.double x2), .second, .val (.int 0)] [(.ref a1)])) (fun t k => ?_) ?_
  · refine XS.aloadN X0.here hx rfl (hb hby d7_0) rfl rfl ?_
    exact k
  obtain ⟨T57, X57, e57, st57⟩ := getF X0 hx hZ hown (host := "") (Or.inl (w_10 hw)) Via.refl e0 F_a1_nodes (g := (mkF m 1 #[.val (.ref a1), .val (.int 1), .val (.double x1), .second, .val (.double x2), .second, .val (.int 0)] [(.ref a1)])) rfl rfl (hb hby d7_1)
  refine WP.st st57 ?_
  clear st57
  show WP p.tables e below _ T57 (mkF m 4 #[.val (.ref a1), .val (.int 1), .val (.double x1), .second, .val (.double x2), .second, .val (.int 0)] [(.ref tn)])
  refine WP.st (T' := T57) (f' := (mkF m 7 #[.val (.ref a1), .val (.int 1), .val (.double x1), .second, .val (.double x2), .second, .val (.int 0)] [(.int 1), (.int 0), (.ref tn)])) (fun t k => ?_) ?_
  · refine XS.iload X57.here hx rfl (hb hby d7_4) rfl ?_
    refine XS.iloadN X57.here hx rfl (hb hby d7_6) rfl ?_
    exact k
  obtain ⟨cl58, Ar58, q58, S58, N58, H58, G58⟩ := V_tn
  have hin58 : ¬ ((0 : Int32) < 0 ∨ cl58.slots.size ≤ ((0 : Int32)).toNatClampNeg) := inb_of S58 ⟨by decide, by decide⟩
  obtain ⟨T59, h59, X59, e59, W59, st59⟩ := stI X57 hx hZ e57 Ar58 (j := (0 : Int32)) hin58 (g := (mkF m 7 #[.val (.ref a1), .val (.int 1), .val (.double x1), .second, .val (.double x2), .second, .val (.int 0)] [(.int 1), (.int 0), (.ref tn)])) rfl rfl (hb hby d7_7)
  refine WP.st st59 ?_
  clear st59
  have Vn : Arv Z h59 tn kn .int (3 : Int32) [(.int 1), nd1, nd2] (.int 0) := Arv.set Ar58 q58 S58 N58 H58 G58 rfl W59 0 rfl (Nat.le_of_ble_eq_true rfl)
  replace E_a1 := E_a1.wr W59
  replace F_a1_nodes := F_a1_nodes.other W59 (Or.inl ne_a1_tn)
  replace F_a1_seconds := F_a1_seconds.other W59 (Or.inl ne_a1_tn)
  replace F_a1_metres := F_a1_metres.other W59 (Or.inl ne_a1_tn)
  replace F_a1_position := F_a1_position.other W59 (Or.inl ne_a1_tn)
  replace F_a1_size := F_a1_size.other W59 (Or.inl ne_a1_tn)
  replace V_ts := V_ts.other W59 (Ne.symm ne_tn_ts)
  replace V_tm := V_tm.other W59 (Ne.symm ne_tn_tm)
  replace V_tp := V_tp.other W59 (Ne.symm ne_tn_tp)
  replace Z0 := Nat.le_trans Z0 (Keep.of_wr W59).1
  replace KP := KP.wr W59 (Or.inl (List.mem_of_getElem? (i := 1) rfl))
  replace V_tn := Vn
  replace NF := Fr.snoc X59 NF g_tn
  clear W59 hin58 q58 S58 N58 H58 G58 Ar58
  show WP p.tables e below _ T59 (mkF m 8 #[.val (.ref a1), .val (.int 1), .val (.double x1), .second, .val (.double x2), .second, .val (.int 0)] [])
  refine WP.st (T' := T59) (f' := (mkF m 9 #[.val (.ref a1), .val (.int 1), .val (.double x1), .second, .val (.double x2), .second, .val (.int 0)] [(.ref a1)])) (fun t k => ?_) ?_
  · refine XS.aloadN X59.here hx rfl (hb hby d7_8) rfl rfl ?_
    exact k
  obtain ⟨T60, X60, e60, st60⟩ := getF X59 hx hZ hown (host := "") (Or.inl (w_13 hw)) Via.refl e59 F_a1_seconds (g := (mkF m 9 #[.val (.ref a1), .val (.int 1), .val (.double x1), .second, .val (.double x2), .second, .val (.int 0)] [(.ref a1)])) rfl rfl (hb hby d7_9)
  refine WP.st st60 ?_
  clear st60
  show WP p.tables e below _ T60 (mkF m 12 #[.val (.ref a1), .val (.int 1), .val (.double x1), .second, .val (.double x2), .second, .val (.int 0)] [(.ref ts)])
  refine WP.st (T' := T60) (f' := (mkF m 15 #[.val (.ref a1), .val (.int 1), .val (.double x1), .second, .val (.double x2), .second, .val (.int 0)] [(.double x1), (.int 0), (.ref ts)])) (fun t k => ?_) ?_
  · refine XS.iload X60.here hx rfl (hb hby d7_12) rfl ?_
    refine XS.dloadN X60.here hx rfl (hb hby d7_14) rfl ?_
    exact k
  obtain ⟨cl61, Ar61, q61, S61, N61, H61, G61⟩ := V_ts
  have hin61 : ¬ ((0 : Int32) < 0 ∨ cl61.slots.size ≤ ((0 : Int32)).toNatClampNeg) := inb_of S61 ⟨by decide, by decide⟩
  obtain ⟨T62, h62, X62, e62, W62, st62⟩ := stD X60 hx hZ e60 Ar61 (j := (0 : Int32)) hin61 (g := (mkF m 15 #[.val (.ref a1), .val (.int 1), .val (.double x1), .second, .val (.double x2), .second, .val (.int 0)] [(.double x1), (.int 0), (.ref ts)])) rfl rfl (hb hby d7_15)
  refine WP.st st62 ?_
  clear st62
  have Vn : Arv Z h62 ts ks .double (3 : Int32) [(.double x1), s1, s2] (.double 0) := Arv.set Ar61 q61 S61 N61 H61 G61 rfl W62 0 rfl (Nat.le_of_ble_eq_true rfl)
  replace E_a1 := E_a1.wr W62
  replace F_a1_nodes := F_a1_nodes.other W62 (Or.inl ne_a1_ts)
  replace F_a1_seconds := F_a1_seconds.other W62 (Or.inl ne_a1_ts)
  replace F_a1_metres := F_a1_metres.other W62 (Or.inl ne_a1_ts)
  replace F_a1_position := F_a1_position.other W62 (Or.inl ne_a1_ts)
  replace F_a1_size := F_a1_size.other W62 (Or.inl ne_a1_ts)
  replace V_tm := V_tm.other W62 (Ne.symm ne_ts_tm)
  replace V_tp := V_tp.other W62 (Ne.symm ne_ts_tp)
  replace V_tn := V_tn.other W62 ne_tn_ts
  replace Z0 := Nat.le_trans Z0 (Keep.of_wr W62).1
  replace KP := KP.wr W62 (Or.inl (List.mem_of_getElem? (i := 2) rfl))
  replace V_ts := Vn
  replace NF := Fr.snoc X62 NF g_ts
  clear W62 hin61 q61 S61 N61 H61 G61 Ar61
  show WP p.tables e below _ T62 (mkF m 16 #[.val (.ref a1), .val (.int 1), .val (.double x1), .second, .val (.double x2), .second, .val (.int 0)] [])
  refine WP.st (T' := T62) (f' := (mkF m 17 #[.val (.ref a1), .val (.int 1), .val (.double x1), .second, .val (.double x2), .second, .val (.int 0)] [(.ref a1)])) (fun t k => ?_) ?_
  · refine XS.aloadN X62.here hx rfl (hb hby d7_16) rfl rfl ?_
    exact k
  obtain ⟨T63, X63, e63, st63⟩ := getF X62 hx hZ hown (host := "") (Or.inl (w_15 hw)) Via.refl e62 F_a1_metres (g := (mkF m 17 #[.val (.ref a1), .val (.int 1), .val (.double x1), .second, .val (.double x2), .second, .val (.int 0)] [(.ref a1)])) rfl rfl (hb hby d7_17)
  refine WP.st st63 ?_
  clear st63
  show WP p.tables e below _ T63 (mkF m 20 #[.val (.ref a1), .val (.int 1), .val (.double x1), .second, .val (.double x2), .second, .val (.int 0)] [(.ref tm)])
  refine WP.st (T' := T63) (f' := (mkF m 24 #[.val (.ref a1), .val (.int 1), .val (.double x1), .second, .val (.double x2), .second, .val (.int 0)] [(.double x2), (.int 0), (.ref tm)])) (fun t k => ?_) ?_
  · refine XS.iload X63.here hx rfl (hb hby d7_20) rfl ?_
    refine XS.dload X63.here hx rfl (hb hby d7_22) rfl ?_
    exact k
  obtain ⟨cl64, Ar64, q64, S64, N64, H64, G64⟩ := V_tm
  have hin64 : ¬ ((0 : Int32) < 0 ∨ cl64.slots.size ≤ ((0 : Int32)).toNatClampNeg) := inb_of S64 ⟨by decide, by decide⟩
  obtain ⟨T65, h65, X65, e65, W65, st65⟩ := stD X63 hx hZ e63 Ar64 (j := (0 : Int32)) hin64 (g := (mkF m 24 #[.val (.ref a1), .val (.int 1), .val (.double x1), .second, .val (.double x2), .second, .val (.int 0)] [(.double x2), (.int 0), (.ref tm)])) rfl rfl (hb hby d7_24)
  refine WP.st st65 ?_
  clear st65
  have Vn : Arv Z h65 tm km .double (3 : Int32) [(.double x2), m1, m2] (.double 0) := Arv.set Ar64 q64 S64 N64 H64 G64 rfl W65 0 rfl (Nat.le_of_ble_eq_true rfl)
  replace E_a1 := E_a1.wr W65
  replace F_a1_nodes := F_a1_nodes.other W65 (Or.inl ne_a1_tm)
  replace F_a1_seconds := F_a1_seconds.other W65 (Or.inl ne_a1_tm)
  replace F_a1_metres := F_a1_metres.other W65 (Or.inl ne_a1_tm)
  replace F_a1_position := F_a1_position.other W65 (Or.inl ne_a1_tm)
  replace F_a1_size := F_a1_size.other W65 (Or.inl ne_a1_tm)
  replace V_tp := V_tp.other W65 (Ne.symm ne_tm_tp)
  replace V_tn := V_tn.other W65 ne_tn_tm
  replace V_ts := V_ts.other W65 ne_ts_tm
  replace Z0 := Nat.le_trans Z0 (Keep.of_wr W65).1
  replace KP := KP.wr W65 (Or.inl (List.mem_of_getElem? (i := 3) rfl))
  replace V_tm := Vn
  replace NF := Fr.snoc X65 NF g_tm
  clear W65 hin64 q64 S64 N64 H64 G64 Ar64
  show WP p.tables e below _ T65 (mkF m 25 #[.val (.ref a1), .val (.int 1), .val (.double x1), .second, .val (.double x2), .second, .val (.int 0)] [])
  refine WP.st (T' := T65) (f' := (mkF m 26 #[.val (.ref a1), .val (.int 1), .val (.double x1), .second, .val (.double x2), .second, .val (.int 0)] [(.ref a1)])) (fun t k => ?_) ?_
  · refine XS.aloadN X65.here hx rfl (hb hby d7_25) rfl rfl ?_
    exact k
  obtain ⟨T66, X66, e66, st66⟩ := getF X65 hx hZ hown (host := "") (Or.inl (w_17 hw)) Via.refl e65 F_a1_position (g := (mkF m 26 #[.val (.ref a1), .val (.int 1), .val (.double x1), .second, .val (.double x2), .second, .val (.int 0)] [(.ref a1)])) rfl rfl (hb hby d7_26)
  refine WP.st st66 ?_
  clear st66
  show WP p.tables e below _ T66 (mkF m 29 #[.val (.ref a1), .val (.int 1), .val (.double x1), .second, .val (.double x2), .second, .val (.int 0)] [(.ref tp)])
  refine WP.st (T' := T66) (f' := (mkF m 34 #[.val (.ref a1), .val (.int 1), .val (.double x1), .second, .val (.double x2), .second, .val (.int 0)] [(.int ((0 : Int32) + (1 : Int32))), (.int 1), (.ref tp)])) (fun t k => ?_) ?_
  · refine XS.iloadN X66.here hx rfl (hb hby d7_29) rfl ?_
    refine XS.iload X66.here hx rfl (hb hby d7_30) rfl ?_
    refine XS.iconst X66.here hx rfl (hb hby d7_32) ?_
    refine XS.iadd X66.here hx rfl (hb hby d7_33) rfl ?_
    exact k
  rw [show ((0 : Int32) + (1 : Int32)) = (1 : Int32) from by decide]
  show WP p.tables e below _ T66 (mkF m 34 #[.val (.ref a1), .val (.int 1), .val (.double x1), .second, .val (.double x2), .second, .val (.int 0)] [(.int 1), (.int 1), (.ref tp)])
  obtain ⟨cl67, Ar67, q67, S67, N67, H67, G67⟩ := V_tp
  have hin67 : ¬ ((1 : Int32) < 0 ∨ cl67.slots.size ≤ ((1 : Int32)).toNatClampNeg) := inb_of S67 ⟨by decide, by decide⟩
  obtain ⟨T68, h68, X68, e68, W68, st68⟩ := stI X66 hx hZ e66 Ar67 (j := (1 : Int32)) hin67 (g := (mkF m 34 #[.val (.ref a1), .val (.int 1), .val (.double x1), .second, .val (.double x2), .second, .val (.int 0)] [(.int 1), (.int 1), (.ref tp)])) rfl rfl (hb hby d7_34)
  refine WP.st st68 ?_
  clear st68
  have Vn : Arv Z h68 tp kp .int (3 : Int32) [p0, (.int 1), p2] (.int 0) := Arv.set Ar67 q67 S67 N67 H67 G67 rfl W68 1 rfl (Nat.le_of_ble_eq_true rfl)
  replace E_a1 := E_a1.wr W68
  replace F_a1_nodes := F_a1_nodes.other W68 (Or.inl ne_a1_tp)
  replace F_a1_seconds := F_a1_seconds.other W68 (Or.inl ne_a1_tp)
  replace F_a1_metres := F_a1_metres.other W68 (Or.inl ne_a1_tp)
  replace F_a1_position := F_a1_position.other W68 (Or.inl ne_a1_tp)
  replace F_a1_size := F_a1_size.other W68 (Or.inl ne_a1_tp)
  replace V_tn := V_tn.other W68 ne_tn_tp
  replace V_ts := V_ts.other W68 ne_ts_tp
  replace V_tm := V_tm.other W68 ne_tm_tp
  replace Z0 := Nat.le_trans Z0 (Keep.of_wr W68).1
  replace KP := KP.wr W68 (Or.inl (List.mem_of_getElem? (i := 4) rfl))
  replace V_tp := Vn
  replace NF := Fr.snoc X68 NF g_tp
  clear W68 hin67 q67 S67 N67 H67 G67 Ar67
  show WP p.tables e below _ T68 (mkF m 35 #[.val (.ref a1), .val (.int 1), .val (.double x1), .second, .val (.double x2), .second, .val (.int 0)] [])
  subst hG
  obtain ⟨fs, hr, hrun, hended, hW, hsame⟩ := X68.leave (v := none) (fun _ => rfl)
  refine WP.fin ⟨_, _, ?_, hrun, hended, _, _, rfl, ?_, ⟨_, rfl⟩, hW, hsame.mono (by decide) (by decide)⟩
  · exact X68.returnOut hx Bd.returns (hb hby d7_35) hr
  · show Q7t7 Z a1 x1 x2 tn ts tm tp kn ks km kp nd0 nd1 nd2 s0 s1 s2 m0 m1 m2 p0 p1 p2 u_size h0 n0 _ T68.heap _
    rw [e68]
    exact ⟨rfl, NF, KP, F_a1_nodes, F_a1_seconds, F_a1_metres, F_a1_position, F_a1_size, V_tn, V_ts, V_tm, V_tp⟩
theorem ef_6t4 (m : MethodId) (z0 : Addr) (z2 : UInt64) (z3 : UInt64) : entryFrame m #[(.ref z0), (.int 1), (.double z2), (.double z3), (.int 1)] 8 = mkF m 0 #[.val (.ref z0), .val (.int 1), .val (.double z2), .second, .val (.double z3), .second, .val (.int 1), .unset] [] := by
  all_goals first | (simp [entryFrame, mkF, argsToLocals, Value.category]; done) | rfl
theorem d6_5 : decode prog_49_method_7_code 5 = .ok (.iload 6, 2) := by decide +kernel
theorem d6_7 : decode prog_49_method_7_code 7 = .ok (.iconst 1, 1) := by decide +kernel
theorem d6_8 : decode prog_49_method_7_code 8 = .ok (.isub, 1) := by decide +kernel
theorem d6_9 : decode prog_49_method_7_code 9 = .ok (.iconst 1, 1) := by decide +kernel
theorem d6_10 : decode prog_49_method_7_code 10 = .ok (.iushr, 1) := by decide +kernel
theorem d6_11 : decode prog_49_method_7_code 11 = .ok (.istore 7, 2) := by decide +kernel
theorem d6_13 : decode prog_49_method_7_code 13 = .ok (.dload_n 2, 1) := by decide +kernel
theorem d6_14 : decode prog_49_method_7_code 14 = .ok (.dload 4, 2) := by decide +kernel
theorem d6_16 : decode prog_49_method_7_code 16 = .ok (.aload_n 0, 1) := by decide +kernel
theorem d6_17 : decode prog_49_method_7_code 17 = .ok (.getfield 13, 3) := by decide +kernel
theorem d6_20 : decode prog_49_method_7_code 20 = .ok (.iload 7, 2) := by decide +kernel
theorem d6_22 : decode prog_49_method_7_code 22 = .ok (.daload, 1) := by decide +kernel
theorem d6_23 : decode prog_49_method_7_code 23 = .ok (.aload_n 0, 1) := by decide +kernel
theorem d6_24 : decode prog_49_method_7_code 24 = .ok (.getfield 17, 3) := by decide +kernel
theorem d6_27 : decode prog_49_method_7_code 27 = .ok (.iload 7, 2) := by decide +kernel
theorem d6_29 : decode prog_49_method_7_code 29 = .ok (.daload, 1) := by decide +kernel
theorem w_46 {a0 : Array Value} {Z : State} (hw : ∀ d ∈ tables_1, d.before a0 Z = true) : (Jvm.Cond.methodLink "com/example/tandemcab/tandemcab/NodeQueue" (31 : Nat) ({ cls := "com/example/tandemcab/tandemcab/NodeQueue", name := "before", desc := "(DDDD)Z" } : Jvm.MethodName)).before a0 Z = true := hw _ (List.mem_of_getElem? (i := 46) rfl)
theorem d6_30 : decode prog_49_method_7_code 30 = .ok (.invokestatic 31, 3) := by decide +kernel
theorem w_48 {a0 : Array Value} {Z : State} (hw : ∀ d ∈ tables_1, d.before a0 Z = true) : (Jvm.Cond.code ({ cls := "com/example/tandemcab/tandemcab/NodeQueue", name := "before", desc := "(DDDD)Z" } : Jvm.MethodName) prog_49_method_11_code (8 : Nat) (Option.some Jvm.ClassFile.FieldType.boolean)).before a0 Z = true := hw _ (List.mem_of_getElem? (i := 48) rfl)
theorem pd_4 : parseMethodDescriptor "(DDDD)Z" = some ⟨[.double, .double, .double, .double], some .boolean⟩ := by decide +kernel
theorem w_47 {a0 : Array Value} {Z : State} (hw : ∀ d ∈ tables_1, d.before a0 Z = true) : (Jvm.Cond.static ({ cls := "com/example/tandemcab/tandemcab/NodeQueue", name := "before", desc := "(DDDD)Z" } : Jvm.MethodName)).before a0 Z = true := hw _ (List.mem_of_getElem? (i := 47) rfl)
theorem d6_33 : decode prog_49_method_7_code 33 = .ok (.ifCond .ne 6, 3) := by decide +kernel
theorem d6_39 : decode prog_49_method_7_code 39 = .ok (.aload_n 0, 1) := by decide +kernel
theorem d6_40 : decode prog_49_method_7_code 40 = .ok (.iload 7, 2) := by decide +kernel
theorem d6_42 : decode prog_49_method_7_code 42 = .ok (.iload 6, 2) := by decide +kernel
theorem w_49 {a0 : Array Value} {Z : State} (hw : ∀ d ∈ tables_1, d.before a0 Z = true) : (Jvm.Cond.methodLink "com/example/tandemcab/tandemcab/NodeQueue" (38 : Nat) ({ cls := "com/example/tandemcab/tandemcab/NodeQueue", name := "move", desc := "(II)V" } : Jvm.MethodName)).before a0 Z = true := hw _ (List.mem_of_getElem? (i := 49) rfl)
theorem d6_44 : decode prog_49_method_7_code 44 = .ok (.invokevirtual 38, 3) := by decide +kernel
theorem w_52 {a0 : Array Value} {Z : State} (hw : ∀ d ∈ tables_1, d.before a0 Z = true) : (Jvm.Cond.code ({ cls := "com/example/tandemcab/tandemcab/NodeQueue", name := "move", desc := "(II)V" } : Jvm.MethodName) prog_49_method_9_code (3 : Nat) (Option.none : Option Jvm.ClassFile.FieldType)).before a0 Z = true := hw _ (List.mem_of_getElem? (i := 52) rfl)
theorem pd_5 : parseMethodDescriptor "(II)V" = some ⟨[.int, .int], none⟩ := by decide +kernel
theorem w_51 {a0 : Array Value} {Z : State} (hw : ∀ d ∈ tables_1, d.before a0 Z = true) : (Jvm.Cond.privateMethod ({ cls := "com/example/tandemcab/tandemcab/NodeQueue", name := "move", desc := "(II)V" } : Jvm.MethodName)).before a0 Z = true := hw _ (List.mem_of_getElem? (i := 51) rfl)
theorem w_50 {a0 : Array Value} {Z : State} (hw : ∀ d ∈ tables_1, d.before a0 Z = true) : (Jvm.Cond.instanceMethod ({ cls := "com/example/tandemcab/tandemcab/NodeQueue", name := "move", desc := "(II)V" } : Jvm.MethodName)).before a0 Z = true := hw _ (List.mem_of_getElem? (i := 50) rfl)
theorem d6_47 : decode prog_49_method_7_code 47 = .ok (.iload 7, 2) := by decide +kernel
theorem d6_49 : decode prog_49_method_7_code 49 = .ok (.istore 6, 2) := by decide +kernel
theorem d6_51 : decode prog_49_method_7_code 51 = .ok (.goto (-51), 3) := by decide +kernel
def Q6t4 (Z : State) (a1 : Addr) (x1 : UInt64) (x2 : UInt64) (tn : Addr) (ts : Addr) (tm : Addr) (tp : Addr) (kn : ClassId) (ks : ClassId) (km : ClassId) (kp : ClassId) (nd1 : Value) (nd2 : Value) (y1 : UInt64) (s1 : Value) (s2 : Value) (y2 : UInt64) (m1 : Value) (m2 : Value) (p0 : Value) (p1 : Value) (p2 : Value) (u_size : Int32) (h0 : Heap) (n0 : Nat) (v : Option Value) (h : Heap) (L : List Loc) : Prop := v = none ∧ Fr n0 L ∧ Keep h0 h [a1, tn, ts, tm, tp] ∧ Fld Z h a1 "com/example/tandemcab/tandemcab/NodeQueue" "nodes" "[I" (.ref tn) ∧ Fld Z h a1 "com/example/tandemcab/tandemcab/NodeQueue" "seconds" "[D" (.ref ts) ∧ Fld Z h a1 "com/example/tandemcab/tandemcab/NodeQueue" "metres" "[D" (.ref tm) ∧ Fld Z h a1 "com/example/tandemcab/tandemcab/NodeQueue" "position" "[I" (.ref tp) ∧ Fld Z h a1 "com/example/tandemcab/tandemcab/NodeQueue" "size" "I" (.int u_size) ∧ (Arv Z h tn kn .int (3 : Int32) [(.int 1), (.int 0), nd2] (.int 0)) ∧ (Arv Z h ts ks .double (3 : Int32) [(.double x1), (.double y1), s2] (.double 0)) ∧ (Arv Z h tm km .double (3 : Int32) [(.double x2), (.double y2), m2] (.double 0)) ∧ (Arv Z h tp kp .int (3 : Int32) [(.int 2), (.int 1), p2] (.int 0))
set_option maxRecDepth 65536 in
set_option maxHeartbeats 40000000 in
theorem rm6t4 (l : Launch) (Z : State) (a0 : Array Value) (hw : ∀ d ∈ tables_1, d.before a0 Z = true) (wsC : List Jvm.Cond) (a1 : Addr) (x1 : UInt64) (x2 : UInt64) (tn : Addr) (ts : Addr) (tm : Addr) (tp : Addr) (kn : ClassId) (ks : ClassId) (km : ClassId) (kp : ClassId) (nd1 : Value) (nd2 : Value) (y1 : UInt64) (s1 : Value) (s2 : Value) (y2 : UInt64) (m1 : Value) (m2 : Value) (p0 : Value) (p1 : Value) (p2 : Value) (u_size : Int32) (h0 : Heap) (n0 : Nat) (Z0 : n0 ≤ h0.size) (E_a1 : Exa Z h0 a1 "com/example/tandemcab/tandemcab/NodeQueue") (F_a1_nodes : Fld Z h0 a1 "com/example/tandemcab/tandemcab/NodeQueue" "nodes" "[I" (.ref tn)) (F_a1_seconds : Fld Z h0 a1 "com/example/tandemcab/tandemcab/NodeQueue" "seconds" "[D" (.ref ts)) (F_a1_metres : Fld Z h0 a1 "com/example/tandemcab/tandemcab/NodeQueue" "metres" "[D" (.ref tm)) (F_a1_position : Fld Z h0 a1 "com/example/tandemcab/tandemcab/NodeQueue" "position" "[I" (.ref tp)) (F_a1_size : Fld Z h0 a1 "com/example/tandemcab/tandemcab/NodeQueue" "size" "I" (.int u_size)) (V_tn : Arv Z h0 tn kn .int (3 : Int32) [(.int 0), nd1, nd2] (.int 0)) (V_ts : Arv Z h0 ts ks .double (3 : Int32) [(.double y1), s1, s2] (.double 0)) (V_tm : Arv Z h0 tm km .double (3 : Int32) [(.double y2), m1, m2] (.double 0)) (V_tp : Arv Z h0 tp kp .int (3 : Int32) [p0, p1, p2] (.int 0)) (g_a1 : n0 ≤ a1) (g_tn : n0 ≤ tn) (g_ts : n0 ≤ ts) (g_tm : n0 ≤ tm) (g_tp : n0 ≤ tp) (ne_a1_tn : a1 ≠ tn) (ne_a1_ts : a1 ≠ ts) (ne_a1_tm : a1 ≠ tm) (ne_a1_tp : a1 ≠ tp) (ne_tn_ts : tn ≠ ts) (ne_tn_tm : tn ≠ tm) (ne_tn_tp : tn ≠ tp) (ne_ts_tm : ts ≠ tm) (ne_ts_tp : ts ≠ tp) (ne_tm_tp : tm ≠ tp) (hbef : ¬ ((own_before x1 x2 y1 y2) = (0 : Int32))) :
    MetFree l (⟨"com/example/tandemcab/tandemcab/NodeQueue", "up", "(IDDI)V"⟩ : MethodName) (head1 (Jvm.Cond.code (⟨"com/example/tandemcab/tandemcab/NodeQueue", "up", "(IDDI)V"⟩ : MethodName) prog_49_method_7_code 8 none :: wsC) ({ frames := 2, cells := 0, slots := 0, locals := 32 } : Room)) (fun a U => a = #[(.ref a1), (.int 1), (.double x1), (.double x2), (.int 1)] ∧ Z.Warmed39 U.vm ∧ U.heap = h0) (fun _ _ _ _ _ => True) (fun _ U o U' => ∃ v L, o = .returned v ∧ Q6t4 Z a1 x1 x2 tn ts tm tp kn ks km kp nd1 nd2 y1 s1 s2 y2 m1 m2 p0 p1 p2 u_size h0 n0 v U'.heap L ∧ FrameEnd U o U' L ({ frames := 2, cells := 0, slots := 0, locals := 32 } : Room).cells ({ frames := 2, cells := 0, slots := 0, locals := 32 } : Room).slots) := by
  refine MetFree.of_bodySF (plainFor_of_name pn_0) hisR ?_
  intro p e s m args below meth c s₁ Bd hml0 hP hK
  obtain ⟨rfl, hZ, hh⟩ := hP
  have hx := Bd.exec
  have hby := Bd.bytes
  have hml : c.maxLocals = 8 := hml0
  have hown : s.vm.findClass "com/example/tandemcab/tandemcab/NodeQueue" = some m.cls := findClass_of_methodNamed Bd.named
  have hnm := (name_of_methodNamed Bd.named Bd.method).1
  have X0 : Stand p l e ({ frames := 2, cells := 0, slots := 0, locals := 32 } : Room) s m #[(.ref a1), (.int 1), (.double x1), (.double x2), (.int 1)] below meth c s₁ [] 0 0 := Stand.of_body Bd
  have e0 : s₁.heap = h0 := by rw [← hh, Bd.state]; rfl
  have NF := Fr.nil n0
  have KP : Keep h0 h0 [a1, tn, ts, tm, tp] := Keep.refl h0 _
  refine WP.go ?_
  refine WP.cast (ef_6t4 m a1 x1 x2) ?_
  refine WP.name ?_
  intro G hG
  refine WP.st (T' := s₁) (f' := (mkF m 9 #[.val (.ref a1), .val (.int 1), .val (.double x1), .second, .val (.double x2), .second, .val (.int 1), .unset] [(.int ((1 : Int32) - (1 : Int32)))])) (fun t k => ?_) ?_
  · refine XS.iload X0.here hx rfl (hb hby d6_0) rfl ?_
    refine XS.ifNo X0.here hx rfl (hb hby d6_2) rfl ((if0 _ _).trans (tlt (by decide : (0 : Int32) < (1 : Int32))).2.2.2) ?_
    refine XS.iload X0.here hx rfl (hb hby d6_5) rfl ?_
    refine XS.iconst X0.here hx rfl (hb hby d6_7) ?_
    refine XS.isub X0.here hx rfl (hb hby d6_8) rfl ?_
    exact k
  rw [show ((1 : Int32) - (1 : Int32)) = (0 : Int32) from by decide]
  show WP p.tables e below _ s₁ (mkF m 9 #[.val (.ref a1), .val (.int 1), .val (.double x1), .second, .val (.double x2), .second, .val (.int 1), .unset] [(.int 0)])
  refine WP.st (T' := s₁) (f' := (mkF m 11 #[.val (.ref a1), .val (.int 1), .val (.double x1), .second, .val (.double x2), .second, .val (.int 1), .unset] [(.int (((0 : Int32).toUInt32 >>> ((1 : Int32) &&& 31).toUInt32).toInt32))])) (fun t k => ?_) ?_
  · refine XS.iconst X0.here hx rfl (hb hby d6_9) ?_
    refine XS.iushr X0.here hx rfl (hb hby d6_10) rfl ?_
    exact k
  rw [show (((0 : Int32).toUInt32 >>> ((1 : Int32) &&& 31).toUInt32).toInt32) = (0 : Int32) from by decide]
  show WP p.tables e below _ s₁ (mkF m 11 #[.val (.ref a1), .val (.int 1), .val (.double x1), .second, .val (.double x2), .second, .val (.int 1), .unset] [(.int 0)])
  refine WP.st (T' := s₁) (f' := (mkF m 17 #[.val (.ref a1), .val (.int 1), .val (.double x1), .second, .val (.double x2), .second, .val (.int 1), .val (.int 0)] [(.ref a1), (.double x2), (.double x1)])) (fun t k => ?_) ?_
  · refine XS.istore X0.here hx rfl (hb hby d6_11) rfl (l' := #[.val (.ref a1), .val (.int 1), .val (.double x1), .second, .val (.double x2), .second, .val (.int 1), .val (.int 0)]) rfl ?_
    refine XS.dloadN X0.here hx rfl (hb hby d6_13) rfl ?_
    refine XS.dload X0.here hx rfl (hb hby d6_14) rfl ?_
    refine XS.aloadN X0.here hx rfl (hb hby d6_16) rfl rfl ?_
    exact k
  obtain ⟨T69, X69, e69, st69⟩ := getF X0 hx hZ hown (host := "") (Or.inl (w_13 hw)) Via.refl e0 F_a1_seconds (g := (mkF m 17 #[.val (.ref a1), .val (.int 1), .val (.double x1), .second, .val (.double x2), .second, .val (.int 1), .val (.int 0)] [(.ref a1), (.double x2), (.double x1)])) rfl rfl (hb hby d6_17)
  refine WP.st st69 ?_
  clear st69
  show WP p.tables e below _ T69 (mkF m 20 #[.val (.ref a1), .val (.int 1), .val (.double x1), .second, .val (.double x2), .second, .val (.int 1), .val (.int 0)] [(.ref ts), (.double x2), (.double x1)])
  refine WP.st (T' := T69) (f' := (mkF m 22 #[.val (.ref a1), .val (.int 1), .val (.double x1), .second, .val (.double x2), .second, .val (.int 1), .val (.int 0)] [(.int 0), (.ref ts), (.double x2), (.double x1)])) (fun t k => ?_) ?_
  · refine XS.iload X69.here hx rfl (hb hby d6_20) rfl ?_
    exact k
  obtain ⟨cl70, Ar70, hin70, hat70, -⟩ := V_ts.rd (j := (0 : Int32)) ⟨by decide, by decide⟩
  replace hat70 : cl70.slots[((0 : Int32)).toNatClampNeg]? = some (.double y1) := hat70
  refine WP.st (T' := T69) (f' := (mkF m 24 #[.val (.ref a1), .val (.int 1), .val (.double x1), .second, .val (.double x2), .second, .val (.int 1), .val (.int 0)] [(.ref a1), (.double y1), (.double x2), (.double x1)])) (fun t k => ?_) ?_
  · refine X69.daload hx (j := (0 : Int32)) (v := (.double y1)) (by rw [e69]; exact Ar70.1) (State.isArrayOf_alike hZ.alike Ar70.2.1) Ar70.2.2 hin70 hat70 (g := (mkF m 22 #[.val (.ref a1), .val (.int 1), .val (.double x1), .second, .val (.double x2), .second, .val (.int 1), .val (.int 0)] [(.int 0), (.ref ts), (.double x2), (.double x1)])) rfl rfl (hb hby d6_22) _ ?_
    refine XS.aloadN X69.here hx rfl (hb hby d6_23) rfl rfl ?_
    exact k
  obtain ⟨T71, X71, e71, st71⟩ := getF X69 hx hZ hown (host := "") (Or.inl (w_15 hw)) Via.refl e69 F_a1_metres (g := (mkF m 24 #[.val (.ref a1), .val (.int 1), .val (.double x1), .second, .val (.double x2), .second, .val (.int 1), .val (.int 0)] [(.ref a1), (.double y1), (.double x2), (.double x1)])) rfl rfl (hb hby d6_24)
  refine WP.st st71 ?_
  clear st71
  show WP p.tables e below _ T71 (mkF m 27 #[.val (.ref a1), .val (.int 1), .val (.double x1), .second, .val (.double x2), .second, .val (.int 1), .val (.int 0)] [(.ref tm), (.double y1), (.double x2), (.double x1)])
  refine WP.st (T' := T71) (f' := (mkF m 29 #[.val (.ref a1), .val (.int 1), .val (.double x1), .second, .val (.double x2), .second, .val (.int 1), .val (.int 0)] [(.int 0), (.ref tm), (.double y1), (.double x2), (.double x1)])) (fun t k => ?_) ?_
  · refine XS.iload X71.here hx rfl (hb hby d6_27) rfl ?_
    exact k
  obtain ⟨cl72, Ar72, hin72, hat72, -⟩ := V_tm.rd (j := (0 : Int32)) ⟨by decide, by decide⟩
  replace hat72 : cl72.slots[((0 : Int32)).toNatClampNeg]? = some (.double y2) := hat72
  refine WP.st (T' := T71) (f' := (mkF m 30 #[.val (.ref a1), .val (.int 1), .val (.double x1), .second, .val (.double x2), .second, .val (.int 1), .val (.int 0)] [(.double y2), (.double y1), (.double x2), (.double x1)])) (fun t k => ?_) ?_
  · refine X71.daload hx (j := (0 : Int32)) (v := (.double y2)) (by rw [e71]; exact Ar72.1) (State.isArrayOf_alike hZ.alike Ar72.2.1) Ar72.2.2 hin72 hat72 (g := (mkF m 29 #[.val (.ref a1), .val (.int 1), .val (.double x1), .second, .val (.double x2), .second, .val (.int 1), .val (.int 0)] [(.int 0), (.ref tm), (.double y1), (.double x2), (.double x1)])) rfl rfl (hb hby d6_29) _ ?_
    exact k
  obtain ⟨_, _, ⟨T73, L73, k73, n73⟩, -, X73, ⟨Lc73, hQ73, l73, y73, z73⟩, st73⟩ := Jvm.LawKit.callS X71 hx (y := (⟨"com/example/tandemcab/tandemcab/NodeQueue", "before", "(DDDD)Z"⟩ : MethodName)) hown (mvT hZ (w_46 hw)) (mvT hZ (w_47 hw)) (mvT hZ (w_2 hw)) (mvT hZ (w_48 hw)) (by decide) (backOf (W := 0) (rm8 l Z a0 hw [] x1 x2 y1 y2 h0 n0 Z0 ) hZ (w_48 hw) (w_2 hw) (by decide) (by decide)) (g := (mkF m 30 #[.val (.ref a1), .val (.int 1), .val (.double x1), .second, .val (.double x2), .second, .val (.int 1), .val (.int 0)] [(.double y2), (.double y1), (.double x2), (.double x1)])) rfl (by rw [hml]; rfl) (argsL := [(.double x1), (.double x2), (.double y1), (.double y2)]) (rest := []) (lenOf pd_4 rfl) rfl (by show 2 * 0 + _ ≤ _; exact Nat.le_of_eq rfl) (hb hby d6_30) (fun _ _ => ⟨rfl, e71, (by decide : 0 + 0 ≤ _), (by decide : 0 + 0 ≤ _)⟩)
  dsimp only [Pt.U, Pt.locs, Pt.cells, Pt.slots] at X73 l73 y73 z73 st73 hQ73
  subst l73 y73 z73
  obtain ⟨rfl, Nq73, Kq73⟩ := hQ73
  replace NF := Fr.app NF Nq73
  clear Nq73
  refine WP.st st73 ?_
  clear st73
  replace Kq73 := Kq73.trans (rfl : h0 = h0)
  show WP p.tables e below _ T73 (mkF m 33 #[.val (.ref a1), .val (.int 1), .val (.double x1), .second, .val (.double x2), .second, .val (.int 1), .val (.int 0)] [(.int (own_before x1 x2 y1 y2))])
  refine WP.st (T' := T73) (f' := (mkF m 44 #[.val (.ref a1), .val (.int 1), .val (.double x1), .second, .val (.double x2), .second, .val (.int 1), .val (.int 0)] [(.int 1), (.int 0), (.ref a1)])) (fun t k => ?_) ?_
  · refine XS.ifYes X73.here hx rfl (pc0 := 33) (pc' := 39) rfl (hb hby d6_33) rfl ((if0 _ _).trans (feq hbef).2) (by decide) (by decide) ?_
    refine XS.aloadN X73.here hx rfl (hb hby d6_39) rfl rfl ?_
    refine XS.iload X73.here hx rfl (hb hby d6_40) rfl ?_
    refine XS.iload X73.here hx rfl (hb hby d6_42) rfl ?_
    exact k
  obtain ⟨cq74, q74, q74'⟩ := E_a1.cell
  obtain ⟨_, _, ⟨T74, L74, k74, n74⟩, -, X74, ⟨Lc74, hQ74, l74, y74, z74⟩, st74⟩ := X73.privateBack hx (y := (⟨"com/example/tandemcab/tandemcab/NodeQueue", "move", "(II)V"⟩ : MethodName)) hown (mvT hZ (w_49 hw)) (mvT hZ (w_50 hw)) (ownSel (y := (⟨"com/example/tandemcab/tandemcab/NodeQueue", "move", "(II)V"⟩ : MethodName)) (mvT hZ (w_22 hw)) rfl (Cond.privateMethod_at (mvP hZ (w_51 hw) (args := #[]))) (mvT hZ (w_50 hw)) (by decide)) (Cond.privateMethod_at (mvP hZ (w_51 hw) (args := #[]))) (mvT hZ (w_52 hw)) (by decide) (backOf (W := 0) (rm9t5 l Z a0 hw [] a1 tn ts tm tp kn ks km kp nd1 nd2 y1 s1 s2 y2 m1 m2 p0 p1 p2 u_size h0 n0 Z0 E_a1 F_a1_nodes F_a1_seconds F_a1_metres F_a1_position F_a1_size V_tn V_ts V_tm V_tp g_a1 g_tn g_ts g_tm g_tp ne_a1_tn ne_a1_ts ne_a1_tm ne_a1_tp ne_tn_ts ne_tn_tm ne_tn_tp ne_ts_tm ne_ts_tp ne_tm_tp) hZ (w_52 hw) (w_2 hw) (by decide) (by decide)) (g := (mkF m 44 #[.val (.ref a1), .val (.int 1), .val (.double x1), .second, .val (.double x2), .second, .val (.int 1), .val (.int 0)] [(.int 1), (.int 0), (.ref a1)])) rfl (by rw [hml]; rfl) (Steps.refl _) (a := a1) (by rw [Kq73]; exact q74) q74' (argsL := [(.int 0), (.int 1)]) (rest := []) (lenOf pd_5 rfl) rfl (by show 2 * 0 + _ ≤ _; exact Nat.le_of_eq rfl) (hb hby d6_44) (fun _ _ => ⟨rfl, Kq73, (by decide : 0 + 0 ≤ _), (by decide : 0 + 0 ≤ _)⟩)
  dsimp only [Pt.U, Pt.locs, Pt.cells, Pt.slots] at X74 l74 y74 z74 st74 hQ74
  subst l74 y74 z74
  obtain ⟨rfl, Nq74, Kq74, nF74_a1_nodes, nF74_a1_seconds, nF74_a1_metres, nF74_a1_position, nF74_a1_size, nA74_tn, nA74_ts, nA74_tm, nA74_tp⟩ := hQ74
  replace NF := Fr.app NF Nq74
  clear Nq74
  refine WP.tr st74 ?_
  clear st74
  obtain ⟨h74, e74⟩ : ∃ h, T74.heap = h := ⟨_, rfl⟩
  rw [e74] at Kq74 nF74_a1_nodes nF74_a1_seconds nF74_a1_metres nF74_a1_position nF74_a1_size nA74_tn nA74_ts nA74_tm nA74_tp
  replace E_a1 := E_a1.keep Kq74
  clear F_a1_nodes
  clear F_a1_seconds
  clear F_a1_metres
  clear F_a1_position
  clear F_a1_size
  clear V_tn
  clear V_ts
  clear V_tm
  clear V_tp
  replace Z0 := Nat.le_trans Z0 Kq74.1
  replace KP := KP.trans Kq74 (allS (Or.inl (List.mem_of_getElem? (i := 0) rfl)) (allS (Or.inl (List.mem_of_getElem? (i := 1) rfl)) (allS (Or.inl (List.mem_of_getElem? (i := 2) rfl)) (allS (Or.inl (List.mem_of_getElem? (i := 3) rfl)) (allS (Or.inl (List.mem_of_getElem? (i := 4) rfl)) all0)))))
  clear Kq74
  have F_a1_nodes := nF74_a1_nodes
  clear nF74_a1_nodes
  have F_a1_seconds := nF74_a1_seconds
  clear nF74_a1_seconds
  have F_a1_metres := nF74_a1_metres
  clear nF74_a1_metres
  have F_a1_position := nF74_a1_position
  clear nF74_a1_position
  have F_a1_size := nF74_a1_size
  clear nF74_a1_size
  have V_tn := nA74_tn
  clear nA74_tn
  have V_ts := nA74_ts
  clear nA74_ts
  have V_tm := nA74_tm
  clear nA74_tm
  have V_tp := nA74_tp
  clear nA74_tp
  show WP p.tables e below _ T74 (mkF m 47 #[.val (.ref a1), .val (.int 1), .val (.double x1), .second, .val (.double x2), .second, .val (.int 1), .val (.int 0)] [])
  refine WP.st (T' := T74) (f' := (mkF m 61 #[.val (.ref a1), .val (.int 1), .val (.double x1), .second, .val (.double x2), .second, .val (.int 0), .val (.int 0)] [(.int 0), (.double x2), (.double x1), (.int 1), (.ref a1)])) (fun t k => ?_) ?_
  · refine XS.iload X74.here hx rfl (hb hby d6_47) rfl ?_
    refine XS.istore X74.here hx rfl (hb hby d6_49) rfl (l' := #[.val (.ref a1), .val (.int 1), .val (.double x1), .second, .val (.double x2), .second, .val (.int 0), .val (.int 0)]) rfl ?_
    refine XS.goto X74.here hx rfl (pc0 := 51) (pc' := 0) rfl (hb hby d6_51) (by decide) (by decide) ?_
    refine XS.iload X74.here hx rfl (hb hby d6_0) rfl ?_
    refine XS.ifYes X74.here hx rfl (pc0 := 2) (pc' := 54) rfl (hb hby d6_2) rfl ((if0 _ _).trans (flt (by decide : ¬ ((0 : Int32) < (0 : Int32)))).2.2.2) (by decide) (by decide) ?_
    refine XS.aloadN X74.here hx rfl (hb hby d6_54) rfl rfl ?_
    refine XS.iloadN X74.here hx rfl (hb hby d6_55) rfl ?_
    refine XS.dloadN X74.here hx rfl (hb hby d6_56) rfl ?_
    show Steps p.tables e below (T74.setTop (mkF m 57 #[.val (.ref a1), .val (.int 1), .val (.double x1), .second, .val (.double x2), .second, .val (.int 0), .val (.int 0)] [(.double x1), (.int 1), (.ref a1)])) t
    refine XS.dload X74.here hx rfl (hb hby d6_57) rfl ?_
    refine XS.iload X74.here hx rfl (hb hby d6_59) rfl ?_
    exact k
  obtain ⟨cq75, q75, q75'⟩ := E_a1.cell
  obtain ⟨_, _, ⟨T75, L75, k75, n75⟩, -, X75, ⟨Lc75, hQ75, l75, y75, z75⟩, st75⟩ := X74.privateBack hx (y := (⟨"com/example/tandemcab/tandemcab/NodeQueue", "place", "(IDDI)V"⟩ : MethodName)) hown (mvT hZ (w_41 hw)) (mvT hZ (w_42 hw)) (ownSel (y := (⟨"com/example/tandemcab/tandemcab/NodeQueue", "place", "(IDDI)V"⟩ : MethodName)) (mvT hZ (w_22 hw)) rfl (Cond.privateMethod_at (mvP hZ (w_43 hw) (args := #[]))) (mvT hZ (w_42 hw)) (by decide)) (Cond.privateMethod_at (mvP hZ (w_43 hw) (args := #[]))) (mvT hZ (w_44 hw)) (by decide) (backOf (W := 0) (rm7t7 l Z a0 hw [] a1 x1 x2 tn ts tm tp kn ks km kp (.int 0) (.int 0) nd2 (.double y1) (.double y1) s2 (.double y2) (.double y2) m2 (.int 2) p1 p2 u_size h74 n0 Z0 E_a1 F_a1_nodes F_a1_seconds F_a1_metres F_a1_position F_a1_size V_tn V_ts V_tm V_tp g_a1 g_tn g_ts g_tm g_tp ne_a1_tn ne_a1_ts ne_a1_tm ne_a1_tp ne_tn_ts ne_tn_tm ne_tn_tp ne_ts_tm ne_ts_tp ne_tm_tp) hZ (w_44 hw) (w_2 hw) (by decide) (by decide)) (g := (mkF m 61 #[.val (.ref a1), .val (.int 1), .val (.double x1), .second, .val (.double x2), .second, .val (.int 0), .val (.int 0)] [(.int 0), (.double x2), (.double x1), (.int 1), (.ref a1)])) rfl (by rw [hml]; rfl) (Steps.refl _) (a := a1) (by rw [e74]; exact q75) q75' (argsL := [(.int 1), (.double x1), (.double x2), (.int 0)]) (rest := []) (lenOf pd_2 rfl) rfl (by show 2 * 0 + _ ≤ _; exact Nat.le_of_eq rfl) (hb hby d6_61) (fun _ _ => ⟨rfl, e74, (by decide : 0 + 0 ≤ _), (by decide : 0 + 0 ≤ _)⟩)
  dsimp only [Pt.U, Pt.locs, Pt.cells, Pt.slots] at X75 l75 y75 z75 st75 hQ75
  subst l75 y75 z75
  obtain ⟨rfl, Nq75, Kq75, nF75_a1_nodes, nF75_a1_seconds, nF75_a1_metres, nF75_a1_position, nF75_a1_size, nA75_tn, nA75_ts, nA75_tm, nA75_tp⟩ := hQ75
  replace NF := Fr.app NF Nq75
  clear Nq75
  refine WP.tr st75 ?_
  clear st75
  obtain ⟨h75, e75⟩ : ∃ h, T75.heap = h := ⟨_, rfl⟩
  rw [e75] at Kq75 nF75_a1_nodes nF75_a1_seconds nF75_a1_metres nF75_a1_position nF75_a1_size nA75_tn nA75_ts nA75_tm nA75_tp
  replace E_a1 := E_a1.keep Kq75
  clear F_a1_nodes
  clear F_a1_seconds
  clear F_a1_metres
  clear F_a1_position
  clear F_a1_size
  clear V_tn
  clear V_ts
  clear V_tm
  clear V_tp
  replace Z0 := Nat.le_trans Z0 Kq75.1
  replace KP := KP.trans Kq75 (allS (Or.inl (List.mem_of_getElem? (i := 0) rfl)) (allS (Or.inl (List.mem_of_getElem? (i := 1) rfl)) (allS (Or.inl (List.mem_of_getElem? (i := 2) rfl)) (allS (Or.inl (List.mem_of_getElem? (i := 3) rfl)) (allS (Or.inl (List.mem_of_getElem? (i := 4) rfl)) all0)))))
  clear Kq75
  have F_a1_nodes := nF75_a1_nodes
  clear nF75_a1_nodes
  have F_a1_seconds := nF75_a1_seconds
  clear nF75_a1_seconds
  have F_a1_metres := nF75_a1_metres
  clear nF75_a1_metres
  have F_a1_position := nF75_a1_position
  clear nF75_a1_position
  have F_a1_size := nF75_a1_size
  clear nF75_a1_size
  have V_tn := nA75_tn
  clear nA75_tn
  have V_ts := nA75_ts
  clear nA75_ts
  have V_tm := nA75_tm
  clear nA75_tm
  have V_tp := nA75_tp
  clear nA75_tp
  show WP p.tables e below _ T75 (mkF m 64 #[.val (.ref a1), .val (.int 1), .val (.double x1), .second, .val (.double x2), .second, .val (.int 0), .val (.int 0)] [])
  subst hG
  obtain ⟨fs, hr, hrun, hended, hW, hsame⟩ := X75.leave (v := none) (fun _ => rfl)
  refine WP.fin ⟨_, _, ?_, hrun, hended, _, _, rfl, ?_, ⟨_, rfl⟩, hW, hsame.mono (by decide) (by decide)⟩
  · exact X75.returnOut hx Bd.returns (hb hby d6_64) hr
  · show Q6t4 Z a1 x1 x2 tn ts tm tp kn ks km kp nd1 nd2 y1 s1 s2 y2 m1 m2 p0 p1 p2 u_size h0 n0 _ T75.heap _
    rw [e75]
    exact ⟨rfl, NF, KP, F_a1_nodes, F_a1_seconds, F_a1_metres, F_a1_position, F_a1_size, V_tn, V_ts, V_tm, V_tp⟩
theorem ef_5t3 (m : MethodId) (z0 : Addr) (z2 : UInt64) (z3 : UInt64) : entryFrame m #[(.ref z0), (.int 1), (.double z2), (.double z3)] 7 = mkF m 0 #[.val (.ref z0), .val (.int 1), .val (.double z2), .second, .val (.double z3), .second, .unset] [] := by
  all_goals first | (simp [entryFrame, mkF, argsToLocals, Value.category]; done) | rfl
def Q5t3 (Z : State) (a1 : Addr) (x1 : UInt64) (x2 : UInt64) (tn : Addr) (ts : Addr) (tm : Addr) (tp : Addr) (kn : ClassId) (ks : ClassId) (km : ClassId) (kp : ClassId) (nd1 : Value) (nd2 : Value) (y1 : UInt64) (s1 : Value) (s2 : Value) (y2 : UInt64) (m1 : Value) (m2 : Value) (p0 : Value) (p2 : Value) (h0 : Heap) (n0 : Nat) (v : Option Value) (h : Heap) (L : List Loc) : Prop := v = none ∧ Fr n0 L ∧ Keep h0 h [a1, tn, ts, tm, tp] ∧ Fld Z h a1 "com/example/tandemcab/tandemcab/NodeQueue" "nodes" "[I" (.ref tn) ∧ Fld Z h a1 "com/example/tandemcab/tandemcab/NodeQueue" "seconds" "[D" (.ref ts) ∧ Fld Z h a1 "com/example/tandemcab/tandemcab/NodeQueue" "metres" "[D" (.ref tm) ∧ Fld Z h a1 "com/example/tandemcab/tandemcab/NodeQueue" "position" "[I" (.ref tp) ∧ Fld Z h a1 "com/example/tandemcab/tandemcab/NodeQueue" "size" "I" (.int 2) ∧ (Arv Z h tn kn .int (3 : Int32) [(.int 1), (.int 0), nd2] (.int 0)) ∧ (Arv Z h ts ks .double (3 : Int32) [(.double x1), (.double y1), s2] (.double 0)) ∧ (Arv Z h tm km .double (3 : Int32) [(.double x2), (.double y2), m2] (.double 0)) ∧ (Arv Z h tp kp .int (3 : Int32) [(.int 2), (.int 1), p2] (.int 0))
set_option maxRecDepth 65536 in
set_option maxHeartbeats 40000000 in
theorem rm5t3 (l : Launch) (Z : State) (a0 : Array Value) (hw : ∀ d ∈ tables_1, d.before a0 Z = true) (wsC : List Jvm.Cond) (a1 : Addr) (x1 : UInt64) (x2 : UInt64) (tn : Addr) (ts : Addr) (tm : Addr) (tp : Addr) (kn : ClassId) (ks : ClassId) (km : ClassId) (kp : ClassId) (nd1 : Value) (nd2 : Value) (y1 : UInt64) (s1 : Value) (s2 : Value) (y2 : UInt64) (m1 : Value) (m2 : Value) (p0 : Value) (p2 : Value) (h0 : Heap) (n0 : Nat) (Z0 : n0 ≤ h0.size) (E_a1 : Exa Z h0 a1 "com/example/tandemcab/tandemcab/NodeQueue") (F_a1_nodes : Fld Z h0 a1 "com/example/tandemcab/tandemcab/NodeQueue" "nodes" "[I" (.ref tn)) (F_a1_seconds : Fld Z h0 a1 "com/example/tandemcab/tandemcab/NodeQueue" "seconds" "[D" (.ref ts)) (F_a1_metres : Fld Z h0 a1 "com/example/tandemcab/tandemcab/NodeQueue" "metres" "[D" (.ref tm)) (F_a1_position : Fld Z h0 a1 "com/example/tandemcab/tandemcab/NodeQueue" "position" "[I" (.ref tp)) (F_a1_size : Fld Z h0 a1 "com/example/tandemcab/tandemcab/NodeQueue" "size" "I" (.int 1)) (V_tn : Arv Z h0 tn kn .int (3 : Int32) [(.int 0), nd1, nd2] (.int 0)) (V_ts : Arv Z h0 ts ks .double (3 : Int32) [(.double y1), s1, s2] (.double 0)) (V_tm : Arv Z h0 tm km .double (3 : Int32) [(.double y2), m1, m2] (.double 0)) (V_tp : Arv Z h0 tp kp .int (3 : Int32) [p0, (.int 0), p2] (.int 0)) (g_a1 : n0 ≤ a1) (g_tn : n0 ≤ tn) (g_ts : n0 ≤ ts) (g_tm : n0 ≤ tm) (g_tp : n0 ≤ tp) (ne_a1_tn : a1 ≠ tn) (ne_a1_ts : a1 ≠ ts) (ne_a1_tm : a1 ≠ tm) (ne_a1_tp : a1 ≠ tp) (ne_tn_ts : tn ≠ ts) (ne_tn_tm : tn ≠ tm) (ne_tn_tp : tn ≠ tp) (ne_ts_tm : ts ≠ tm) (ne_ts_tp : ts ≠ tp) (ne_tm_tp : tm ≠ tp) (hbef : ¬ ((own_before x1 x2 y1 y2) = (0 : Int32))) :
    MetFree l (⟨"com/example/tandemcab/tandemcab/NodeQueue", "offer", "(IDD)V"⟩ : MethodName) (head1 (Jvm.Cond.code (⟨"com/example/tandemcab/tandemcab/NodeQueue", "offer", "(IDD)V"⟩ : MethodName) prog_49_method_5_code 7 none :: wsC) ({ frames := 3, cells := 0, slots := 0, locals := 51 } : Room)) (fun a U => a = #[(.ref a1), (.int 1), (.double x1), (.double x2)] ∧ Z.Warmed39 U.vm ∧ U.heap = h0) (fun _ _ _ _ _ => True) (fun _ U o U' => ∃ v L, o = .returned v ∧ Q5t3 Z a1 x1 x2 tn ts tm tp kn ks km kp nd1 nd2 y1 s1 s2 y2 m1 m2 p0 p2 h0 n0 v U'.heap L ∧ FrameEnd U o U' L ({ frames := 3, cells := 0, slots := 0, locals := 51 } : Room).cells ({ frames := 3, cells := 0, slots := 0, locals := 51 } : Room).slots) := by
  refine MetFree.of_bodySF (plainFor_of_name pn_0) hisR ?_
  intro p e s m args below meth c s₁ Bd hml0 hP hK
  obtain ⟨rfl, hZ, hh⟩ := hP
  have hx := Bd.exec
  have hby := Bd.bytes
  have hml : c.maxLocals = 7 := hml0
  have hown : s.vm.findClass "com/example/tandemcab/tandemcab/NodeQueue" = some m.cls := findClass_of_methodNamed Bd.named
  have hnm := (name_of_methodNamed Bd.named Bd.method).1
  have X0 : Stand p l e ({ frames := 3, cells := 0, slots := 0, locals := 51 } : Room) s m #[(.ref a1), (.int 1), (.double x1), (.double x2)] below meth c s₁ [] 0 0 := Stand.of_body Bd
  have e0 : s₁.heap = h0 := by rw [← hh, Bd.state]; rfl
  have NF := Fr.nil n0
  have KP : Keep h0 h0 [a1, tn, ts, tm, tp] := Keep.refl h0 _
  refine WP.go ?_
  refine WP.cast (ef_5t3 m a1 x1 x2) ?_
  refine WP.name ?_
  intro G hG
  refine WP.st (T' := s₁) (f' := (mkF m 1 #[.val (.ref a1), .val (.int 1), .val (.double x1), .second, .val (.double x2), .second, .unset] [(.ref a1)])) (fun t k => ?_) ?_
  · refine XS.aloadN X0.here hx rfl (hb hby d5_0) rfl rfl ?_
    exact k
  obtain ⟨T76, X76, e76, st76⟩ := getF X0 hx hZ hown (host := "") (Or.inl (w_17 hw)) Via.refl e0 F_a1_position (g := (mkF m 1 #[.val (.ref a1), .val (.int 1), .val (.double x1), .second, .val (.double x2), .second, .unset] [(.ref a1)])) rfl rfl (hb hby d5_1)
  refine WP.st st76 ?_
  clear st76
  show WP p.tables e below _ T76 (mkF m 4 #[.val (.ref a1), .val (.int 1), .val (.double x1), .second, .val (.double x2), .second, .unset] [(.ref tp)])
  refine WP.st (T' := T76) (f' := (mkF m 5 #[.val (.ref a1), .val (.int 1), .val (.double x1), .second, .val (.double x2), .second, .unset] [(.int 1), (.ref tp)])) (fun t k => ?_) ?_
  · refine XS.iloadN X76.here hx rfl (hb hby d5_4) rfl ?_
    exact k
  obtain ⟨cl77, Ar77, hin77, hat77, -⟩ := V_tp.rd (j := (1 : Int32)) ⟨by decide, by decide⟩
  replace hat77 : cl77.slots[((1 : Int32)).toNatClampNeg]? = some (.int 0) := hat77
  refine WP.st (T' := T76) (f' := (mkF m 8 #[.val (.ref a1), .val (.int 1), .val (.double x1), .second, .val (.double x2), .second, .unset] [(.int ((0 : Int32) - (1 : Int32)))])) (fun t k => ?_) ?_
  · refine X76.iaload hx (j := (1 : Int32)) (v := (.int 0)) (by rw [e76]; exact Ar77.1) (State.isArrayOf_alike hZ.alike Ar77.2.1) Ar77.2.2 hin77 hat77 (g := (mkF m 5 #[.val (.ref a1), .val (.int 1), .val (.double x1), .second, .val (.double x2), .second, .unset] [(.int 1), (.ref tp)])) rfl rfl (hb hby d5_5) _ ?_
    refine XS.iconst X76.here hx rfl (hb hby d5_6) ?_
    refine XS.isub X76.here hx rfl (hb hby d5_7) rfl ?_
    exact k
  rw [show ((0 : Int32) - (1 : Int32)) = (-1 : Int32) from by decide]
  show WP p.tables e below _ T76 (mkF m 8 #[.val (.ref a1), .val (.int 1), .val (.double x1), .second, .val (.double x2), .second, .unset] [(.int (-1))])
  refine WP.st (T' := T76) (f' := (mkF m 22 #[.val (.ref a1), .val (.int 1), .val (.double x1), .second, .val (.double x2), .second, .val (.int (-1))] [(.ref a1), (.ref a1), (.double x2), (.double x1), (.int 1), (.ref a1)])) (fun t k => ?_) ?_
  · refine XS.istore X76.here hx rfl (hb hby d5_8) rfl (l' := #[.val (.ref a1), .val (.int 1), .val (.double x1), .second, .val (.double x2), .second, .val (.int (-1))]) rfl ?_
    refine XS.iload X76.here hx rfl (hb hby d5_10) rfl ?_
    refine XS.ifNo X76.here hx rfl (hb hby d5_12) rfl ((if0 _ _).trans (tlt (by decide : (-1 : Int32) < (0 : Int32))).2.1) ?_
    refine XS.aloadN X76.here hx rfl (hb hby d5_15) rfl rfl ?_
    refine XS.iloadN X76.here hx rfl (hb hby d5_16) rfl ?_
    refine XS.dloadN X76.here hx rfl (hb hby d5_17) rfl ?_
    refine XS.dload X76.here hx rfl (hb hby d5_18) rfl ?_
    refine XS.aloadN X76.here hx rfl (hb hby d5_20) rfl rfl ?_
    show Steps p.tables e below (T76.setTop (mkF m 21 #[.val (.ref a1), .val (.int 1), .val (.double x1), .second, .val (.double x2), .second, .val (.int (-1))] [(.ref a1), (.double x2), (.double x1), (.int 1), (.ref a1)])) t
    refine XS.dup X76.here hx rfl (hb hby d5_21) rfl rfl ?_
    exact k
  obtain ⟨T78, X78, e78, st78⟩ := getF X76 hx hZ hown (host := "") (Or.inl (w_24 hw)) Via.refl e76 F_a1_size (g := (mkF m 22 #[.val (.ref a1), .val (.int 1), .val (.double x1), .second, .val (.double x2), .second, .val (.int (-1))] [(.ref a1), (.ref a1), (.double x2), (.double x1), (.int 1), (.ref a1)])) rfl rfl (hb hby d5_22)
  refine WP.st st78 ?_
  clear st78
  show WP p.tables e below _ T78 (mkF m 25 #[.val (.ref a1), .val (.int 1), .val (.double x1), .second, .val (.double x2), .second, .val (.int (-1))] [(.int 1), (.ref a1), (.double x2), (.double x1), (.int 1), (.ref a1)])
  refine WP.st (T' := T78) (f' := (mkF m 28 #[.val (.ref a1), .val (.int 1), .val (.double x1), .second, .val (.double x2), .second, .val (.int (-1))] [(.int ((1 : Int32) + (1 : Int32))), (.ref a1), (.int 1), (.double x2), (.double x1), (.int 1), (.ref a1)])) (fun t k => ?_) ?_
  · refine XS.dupX1 X78.here hx rfl (hb hby d5_25) rfl rfl rfl ?_
    refine XS.iconst X78.here hx rfl (hb hby d5_26) ?_
    refine XS.iadd X78.here hx rfl (hb hby d5_27) rfl ?_
    exact k
  rw [show ((1 : Int32) + (1 : Int32)) = (2 : Int32) from by decide]
  show WP p.tables e below _ T78 (mkF m 28 #[.val (.ref a1), .val (.int 1), .val (.double x1), .second, .val (.double x2), .second, .val (.int (-1))] [(.int 2), (.ref a1), (.int 1), (.double x2), (.double x1), (.int 1), (.ref a1)])
  obtain ⟨T79, h79, X79, e79, W79, st79⟩ := putF X78 hx hZ hown (host := "") (Or.inl (w_24 hw)) Via.refl e78 F_a1_size E_a1 (Or.inl (w_25 hw)) (w_1 hw) (ty := .int) (by decide) rfl rfl (g := (mkF m 28 #[.val (.ref a1), .val (.int 1), .val (.double x1), .second, .val (.double x2), .second, .val (.int (-1))] [(.int 2), (.ref a1), (.int 1), (.double x2), (.double x1), (.int 1), (.ref a1)])) rfl rfl (hb hby d5_28)
  refine WP.st st79 ?_
  clear st79
  replace E_a1 := E_a1.wr W79
  replace F_a1_nodes := F_a1_nodes.other W79 (Or.inr (sn_16 hw))
  replace F_a1_seconds := F_a1_seconds.other W79 (Or.inr (sn_17 hw))
  replace F_a1_metres := F_a1_metres.other W79 (Or.inr (sn_18 hw))
  replace F_a1_position := F_a1_position.other W79 (Or.inr (sn_19 hw))
  replace F_a1_size := F_a1_size.same W79
  replace V_tn := V_tn.other W79 (Ne.symm ne_a1_tn)
  replace V_ts := V_ts.other W79 (Ne.symm ne_a1_ts)
  replace V_tm := V_tm.other W79 (Ne.symm ne_a1_tm)
  replace V_tp := V_tp.other W79 (Ne.symm ne_a1_tp)
  replace Z0 := Nat.le_trans Z0 (Keep.of_wr W79).1
  replace KP := KP.wr W79 (Or.inl (List.mem_of_getElem? (i := 0) rfl))
  replace NF := Fr.snoc X79 NF g_a1
  clear W79
  show WP p.tables e below _ T79 (mkF m 31 #[.val (.ref a1), .val (.int 1), .val (.double x1), .second, .val (.double x2), .second, .val (.int (-1))] [(.int 1), (.double x2), (.double x1), (.int 1), (.ref a1)])
  obtain ⟨cq80, q80, q80'⟩ := E_a1.cell
  obtain ⟨_, _, ⟨T80, L80, k80, n80⟩, -, X80, ⟨Lc80, hQ80, l80, y80, z80⟩, st80⟩ := X79.privateBack hx (y := (⟨"com/example/tandemcab/tandemcab/NodeQueue", "up", "(IDDI)V"⟩ : MethodName)) hown (mvT hZ (w_37 hw)) (mvT hZ (w_38 hw)) (ownSel (y := (⟨"com/example/tandemcab/tandemcab/NodeQueue", "up", "(IDDI)V"⟩ : MethodName)) (mvT hZ (w_22 hw)) rfl (Cond.privateMethod_at (mvP hZ (w_39 hw) (args := #[]))) (mvT hZ (w_38 hw)) (by decide)) (Cond.privateMethod_at (mvP hZ (w_39 hw) (args := #[]))) (mvT hZ (w_40 hw)) (by decide) (backOf (W := 0) (rm6t4 l Z a0 hw [] a1 x1 x2 tn ts tm tp kn ks km kp nd1 nd2 y1 s1 s2 y2 m1 m2 p0 (.int 0) p2 (2 : Int32) h79 n0 Z0 E_a1 F_a1_nodes F_a1_seconds F_a1_metres F_a1_position F_a1_size V_tn V_ts V_tm V_tp g_a1 g_tn g_ts g_tm g_tp ne_a1_tn ne_a1_ts ne_a1_tm ne_a1_tp ne_tn_ts ne_tn_tm ne_tn_tp ne_ts_tm ne_ts_tp ne_tm_tp hbef) hZ (w_40 hw) (w_2 hw) (by decide) (by decide)) (g := (mkF m 31 #[.val (.ref a1), .val (.int 1), .val (.double x1), .second, .val (.double x2), .second, .val (.int (-1))] [(.int 1), (.double x2), (.double x1), (.int 1), (.ref a1)])) rfl (by rw [hml]; rfl) (Steps.refl _) (a := a1) (by rw [e79]; exact q80) q80' (argsL := [(.int 1), (.double x1), (.double x2), (.int 1)]) (rest := []) (lenOf pd_2 rfl) rfl (by show 2 * 0 + _ ≤ _; exact Nat.le_of_eq rfl) (hb hby d5_31) (fun _ _ => ⟨rfl, e79, (by decide : 0 + 0 ≤ _), (by decide : 0 + 0 ≤ _)⟩)
  dsimp only [Pt.U, Pt.locs, Pt.cells, Pt.slots] at X80 l80 y80 z80 st80 hQ80
  subst l80 y80 z80
  obtain ⟨rfl, Nq80, Kq80, nF80_a1_nodes, nF80_a1_seconds, nF80_a1_metres, nF80_a1_position, nF80_a1_size, nA80_tn, nA80_ts, nA80_tm, nA80_tp⟩ := hQ80
  replace NF := Fr.app NF Nq80
  clear Nq80
  refine WP.tr st80 ?_
  clear st80
  obtain ⟨h80, e80⟩ : ∃ h, T80.heap = h := ⟨_, rfl⟩
  rw [e80] at Kq80 nF80_a1_nodes nF80_a1_seconds nF80_a1_metres nF80_a1_position nF80_a1_size nA80_tn nA80_ts nA80_tm nA80_tp
  replace E_a1 := E_a1.keep Kq80
  clear F_a1_nodes
  clear F_a1_seconds
  clear F_a1_metres
  clear F_a1_position
  clear F_a1_size
  clear V_tn
  clear V_ts
  clear V_tm
  clear V_tp
  replace Z0 := Nat.le_trans Z0 Kq80.1
  replace KP := KP.trans Kq80 (allS (Or.inl (List.mem_of_getElem? (i := 0) rfl)) (allS (Or.inl (List.mem_of_getElem? (i := 1) rfl)) (allS (Or.inl (List.mem_of_getElem? (i := 2) rfl)) (allS (Or.inl (List.mem_of_getElem? (i := 3) rfl)) (allS (Or.inl (List.mem_of_getElem? (i := 4) rfl)) all0)))))
  clear Kq80
  have F_a1_nodes := nF80_a1_nodes
  clear nF80_a1_nodes
  have F_a1_seconds := nF80_a1_seconds
  clear nF80_a1_seconds
  have F_a1_metres := nF80_a1_metres
  clear nF80_a1_metres
  have F_a1_position := nF80_a1_position
  clear nF80_a1_position
  have F_a1_size := nF80_a1_size
  clear nF80_a1_size
  have V_tn := nA80_tn
  clear nA80_tn
  have V_ts := nA80_ts
  clear nA80_ts
  have V_tm := nA80_tm
  clear nA80_tm
  have V_tp := nA80_tp
  clear nA80_tp
  show WP p.tables e below _ T80 (mkF m 34 #[.val (.ref a1), .val (.int 1), .val (.double x1), .second, .val (.double x2), .second, .val (.int (-1))] [])
  refine WP.st (T' := T80) (f' := (mkF m 83 #[.val (.ref a1), .val (.int 1), .val (.double x1), .second, .val (.double x2), .second, .val (.int (-1))] [])) (fun t k => ?_) ?_
  · refine XS.goto X80.here hx rfl (pc0 := 34) (pc' := 83) rfl (hb hby d5_34) (by decide) (by decide) ?_
    exact k
  subst hG
  obtain ⟨fs, hr, hrun, hended, hW, hsame⟩ := X80.leave (v := none) (fun _ => rfl)
  refine WP.fin ⟨_, _, ?_, hrun, hended, _, _, rfl, ?_, ⟨_, rfl⟩, hW, hsame.mono (by decide) (by decide)⟩
  · exact X80.returnOut hx Bd.returns (hb hby d5_83) hr
  · show Q5t3 Z a1 x1 x2 tn ts tm tp kn ks km kp nd1 nd2 y1 s1 s2 y2 m1 m2 p0 p2 h0 n0 _ T80.heap _
    rw [e80]
    exact ⟨rfl, NF, KP, F_a1_nodes, F_a1_seconds, F_a1_metres, F_a1_position, F_a1_size, V_tn, V_ts, V_tm, V_tp⟩
theorem w_53 {a0 : Array Value} {Z : State} (hw : ∀ d ∈ tables_1, d.before a0 Z = true) : (Jvm.Cond.constantDouble "com/example/tandemcab/tandemcab/NodeQueueClearPinLaw" (27 : Nat) (4621256167635550208 : UInt64)).before a0 Z = true := hw _ (List.mem_of_getElem? (i := 53) rfl)
theorem ef_7t11 (m : MethodId) (z0 : Addr) (z2 : UInt64) (z3 : UInt64) : entryFrame m #[(.ref z0), (.int 1), (.double z2), (.double z3), (.int 2)] 7 = mkF m 0 #[.val (.ref z0), .val (.int 1), .val (.double z2), .second, .val (.double z3), .second, .val (.int 2)] [] := by
  all_goals first | (simp [entryFrame, mkF, argsToLocals, Value.category]; done) | rfl
def Q7t11 (Z : State) (a1 : Addr) (x1 : UInt64) (x2 : UInt64) (tn : Addr) (ts : Addr) (tm : Addr) (tp : Addr) (kn : ClassId) (ks : ClassId) (km : ClassId) (kp : ClassId) (nd0 : Value) (nd1 : Value) (nd2 : Value) (s0 : Value) (s1 : Value) (s2 : Value) (m0 : Value) (m1 : Value) (m2 : Value) (p0 : Value) (p1 : Value) (p2 : Value) (u_size : Int32) (h0 : Heap) (n0 : Nat) (v : Option Value) (h : Heap) (L : List Loc) : Prop := v = none ∧ Fr n0 L ∧ Keep h0 h [a1, tn, ts, tm, tp] ∧ Fld Z h a1 "com/example/tandemcab/tandemcab/NodeQueue" "nodes" "[I" (.ref tn) ∧ Fld Z h a1 "com/example/tandemcab/tandemcab/NodeQueue" "seconds" "[D" (.ref ts) ∧ Fld Z h a1 "com/example/tandemcab/tandemcab/NodeQueue" "metres" "[D" (.ref tm) ∧ Fld Z h a1 "com/example/tandemcab/tandemcab/NodeQueue" "position" "[I" (.ref tp) ∧ Fld Z h a1 "com/example/tandemcab/tandemcab/NodeQueue" "size" "I" (.int u_size) ∧ (Arv Z h tn kn .int (3 : Int32) [nd0, nd1, (.int 1)] (.int 0)) ∧ (Arv Z h ts ks .double (3 : Int32) [s0, s1, (.double x1)] (.double 0)) ∧ (Arv Z h tm km .double (3 : Int32) [m0, m1, (.double x2)] (.double 0)) ∧ (Arv Z h tp kp .int (3 : Int32) [p0, (.int 3), p2] (.int 0))
set_option maxRecDepth 65536 in
set_option maxHeartbeats 40000000 in
theorem rm7t11 (l : Launch) (Z : State) (a0 : Array Value) (hw : ∀ d ∈ tables_1, d.before a0 Z = true) (wsC : List Jvm.Cond) (a1 : Addr) (x1 : UInt64) (x2 : UInt64) (tn : Addr) (ts : Addr) (tm : Addr) (tp : Addr) (kn : ClassId) (ks : ClassId) (km : ClassId) (kp : ClassId) (nd0 : Value) (nd1 : Value) (nd2 : Value) (s0 : Value) (s1 : Value) (s2 : Value) (m0 : Value) (m1 : Value) (m2 : Value) (p0 : Value) (p1 : Value) (p2 : Value) (u_size : Int32) (h0 : Heap) (n0 : Nat) (Z0 : n0 ≤ h0.size) (E_a1 : Exa Z h0 a1 "com/example/tandemcab/tandemcab/NodeQueue") (F_a1_nodes : Fld Z h0 a1 "com/example/tandemcab/tandemcab/NodeQueue" "nodes" "[I" (.ref tn)) (F_a1_seconds : Fld Z h0 a1 "com/example/tandemcab/tandemcab/NodeQueue" "seconds" "[D" (.ref ts)) (F_a1_metres : Fld Z h0 a1 "com/example/tandemcab/tandemcab/NodeQueue" "metres" "[D" (.ref tm)) (F_a1_position : Fld Z h0 a1 "com/example/tandemcab/tandemcab/NodeQueue" "position" "[I" (.ref tp)) (F_a1_size : Fld Z h0 a1 "com/example/tandemcab/tandemcab/NodeQueue" "size" "I" (.int u_size)) (V_tn : Arv Z h0 tn kn .int (3 : Int32) [nd0, nd1, nd2] (.int 0)) (V_ts : Arv Z h0 ts ks .double (3 : Int32) [s0, s1, s2] (.double 0)) (V_tm : Arv Z h0 tm km .double (3 : Int32) [m0, m1, m2] (.double 0)) (V_tp : Arv Z h0 tp kp .int (3 : Int32) [p0, p1, p2] (.int 0)) (g_a1 : n0 ≤ a1) (g_tn : n0 ≤ tn) (g_ts : n0 ≤ ts) (g_tm : n0 ≤ tm) (g_tp : n0 ≤ tp) (ne_a1_tn : a1 ≠ tn) (ne_a1_ts : a1 ≠ ts) (ne_a1_tm : a1 ≠ tm) (ne_a1_tp : a1 ≠ tp) (ne_tn_ts : tn ≠ ts) (ne_tn_tm : tn ≠ tm) (ne_tn_tp : tn ≠ tp) (ne_ts_tm : ts ≠ tm) (ne_ts_tp : ts ≠ tp) (ne_tm_tp : tm ≠ tp) :
    MetFree l (⟨"com/example/tandemcab/tandemcab/NodeQueue", "place", "(IDDI)V"⟩ : MethodName) (head1 (Jvm.Cond.code (⟨"com/example/tandemcab/tandemcab/NodeQueue", "place", "(IDDI)V"⟩ : MethodName) prog_49_method_10_code 7 none :: wsC) ({ frames := 0, cells := 0, slots := 0, locals := 0 } : Room)) (fun a U => a = #[(.ref a1), (.int 1), (.double x1), (.double x2), (.int 2)] ∧ Z.Warmed39 U.vm ∧ U.heap = h0) (fun _ _ _ _ _ => True) (fun _ U o U' => ∃ v L, o = .returned v ∧ Q7t11 Z a1 x1 x2 tn ts tm tp kn ks km kp nd0 nd1 nd2 s0 s1 s2 m0 m1 m2 p0 p1 p2 u_size h0 n0 v U'.heap L ∧ FrameEnd U o U' L ({ frames := 0, cells := 0, slots := 0, locals := 0 } : Room).cells ({ frames := 0, cells := 0, slots := 0, locals := 0 } : Room).slots) := by
  refine MetFree.of_bodySF (plainFor_of_name pn_0) hisR ?_
  intro p e s m args below meth c s₁ Bd hml0 hP hK
  obtain ⟨rfl, hZ, hh⟩ := hP
  have hx := Bd.exec
  have hby := Bd.bytes
  have hml : c.maxLocals = 7 := hml0
  have hown : s.vm.findClass "com/example/tandemcab/tandemcab/NodeQueue" = some m.cls := findClass_of_methodNamed Bd.named
  have hnm := (name_of_methodNamed Bd.named Bd.method).1
  have X0 : Stand p l e ({ frames := 0, cells := 0, slots := 0, locals := 0 } : Room) s m #[(.ref a1), (.int 1), (.double x1), (.double x2), (.int 2)] below meth c s₁ [] 0 0 := Stand.of_body Bd
  have e0 : s₁.heap = h0 := by rw [← hh, Bd.state]; rfl
  have NF := Fr.nil n0
  have KP : Keep h0 h0 [a1, tn, ts, tm, tp] := Keep.refl h0 _
  refine WP.go ?_
  refine WP.cast (ef_7t11 m a1 x1 x2) ?_
  refine WP.name ?_
  intro G hG
  refine WP.st (T' := s₁) (f' := (mkF m 1 #[.val (.ref a1), .val (.int 1), .val (.double x1), .second, .val (.double x2), .second, .val (.int 2)] [(.ref a1)])) (fun t k => ?_) ?_
  · refine XS.aloadN X0.here hx rfl (hb hby d7_0) rfl rfl ?_
    exact k
  obtain ⟨T82, X82, e82, st82⟩ := getF X0 hx hZ hown (host := "") (Or.inl (w_10 hw)) Via.refl e0 F_a1_nodes (g := (mkF m 1 #[.val (.ref a1), .val (.int 1), .val (.double x1), .second, .val (.double x2), .second, .val (.int 2)] [(.ref a1)])) rfl rfl (hb hby d7_1)
  refine WP.st st82 ?_
  clear st82
  show WP p.tables e below _ T82 (mkF m 4 #[.val (.ref a1), .val (.int 1), .val (.double x1), .second, .val (.double x2), .second, .val (.int 2)] [(.ref tn)])
  refine WP.st (T' := T82) (f' := (mkF m 7 #[.val (.ref a1), .val (.int 1), .val (.double x1), .second, .val (.double x2), .second, .val (.int 2)] [(.int 1), (.int 2), (.ref tn)])) (fun t k => ?_) ?_
  · refine XS.iload X82.here hx rfl (hb hby d7_4) rfl ?_
    refine XS.iloadN X82.here hx rfl (hb hby d7_6) rfl ?_
    exact k
  obtain ⟨cl83, Ar83, q83, S83, N83, H83, G83⟩ := V_tn
  have hin83 : ¬ ((2 : Int32) < 0 ∨ cl83.slots.size ≤ ((2 : Int32)).toNatClampNeg) := inb_of S83 ⟨by decide, by decide⟩
  obtain ⟨T84, h84, X84, e84, W84, st84⟩ := stI X82 hx hZ e82 Ar83 (j := (2 : Int32)) hin83 (g := (mkF m 7 #[.val (.ref a1), .val (.int 1), .val (.double x1), .second, .val (.double x2), .second, .val (.int 2)] [(.int 1), (.int 2), (.ref tn)])) rfl rfl (hb hby d7_7)
  refine WP.st st84 ?_
  clear st84
  have Vn : Arv Z h84 tn kn .int (3 : Int32) [nd0, nd1, (.int 1)] (.int 0) := Arv.set Ar83 q83 S83 N83 H83 G83 rfl W84 2 rfl (Nat.le_of_ble_eq_true rfl)
  replace E_a1 := E_a1.wr W84
  replace F_a1_nodes := F_a1_nodes.other W84 (Or.inl ne_a1_tn)
  replace F_a1_seconds := F_a1_seconds.other W84 (Or.inl ne_a1_tn)
  replace F_a1_metres := F_a1_metres.other W84 (Or.inl ne_a1_tn)
  replace F_a1_position := F_a1_position.other W84 (Or.inl ne_a1_tn)
  replace F_a1_size := F_a1_size.other W84 (Or.inl ne_a1_tn)
  replace V_ts := V_ts.other W84 (Ne.symm ne_tn_ts)
  replace V_tm := V_tm.other W84 (Ne.symm ne_tn_tm)
  replace V_tp := V_tp.other W84 (Ne.symm ne_tn_tp)
  replace Z0 := Nat.le_trans Z0 (Keep.of_wr W84).1
  replace KP := KP.wr W84 (Or.inl (List.mem_of_getElem? (i := 1) rfl))
  replace V_tn := Vn
  replace NF := Fr.snoc X84 NF g_tn
  clear W84 hin83 q83 S83 N83 H83 G83 Ar83
  show WP p.tables e below _ T84 (mkF m 8 #[.val (.ref a1), .val (.int 1), .val (.double x1), .second, .val (.double x2), .second, .val (.int 2)] [])
  refine WP.st (T' := T84) (f' := (mkF m 9 #[.val (.ref a1), .val (.int 1), .val (.double x1), .second, .val (.double x2), .second, .val (.int 2)] [(.ref a1)])) (fun t k => ?_) ?_
  · refine XS.aloadN X84.here hx rfl (hb hby d7_8) rfl rfl ?_
    exact k
  obtain ⟨T85, X85, e85, st85⟩ := getF X84 hx hZ hown (host := "") (Or.inl (w_13 hw)) Via.refl e84 F_a1_seconds (g := (mkF m 9 #[.val (.ref a1), .val (.int 1), .val (.double x1), .second, .val (.double x2), .second, .val (.int 2)] [(.ref a1)])) rfl rfl (hb hby d7_9)
  refine WP.st st85 ?_
  clear st85
  show WP p.tables e below _ T85 (mkF m 12 #[.val (.ref a1), .val (.int 1), .val (.double x1), .second, .val (.double x2), .second, .val (.int 2)] [(.ref ts)])
  refine WP.st (T' := T85) (f' := (mkF m 15 #[.val (.ref a1), .val (.int 1), .val (.double x1), .second, .val (.double x2), .second, .val (.int 2)] [(.double x1), (.int 2), (.ref ts)])) (fun t k => ?_) ?_
  · refine XS.iload X85.here hx rfl (hb hby d7_12) rfl ?_
    refine XS.dloadN X85.here hx rfl (hb hby d7_14) rfl ?_
    exact k
  obtain ⟨cl86, Ar86, q86, S86, N86, H86, G86⟩ := V_ts
  have hin86 : ¬ ((2 : Int32) < 0 ∨ cl86.slots.size ≤ ((2 : Int32)).toNatClampNeg) := inb_of S86 ⟨by decide, by decide⟩
  obtain ⟨T87, h87, X87, e87, W87, st87⟩ := stD X85 hx hZ e85 Ar86 (j := (2 : Int32)) hin86 (g := (mkF m 15 #[.val (.ref a1), .val (.int 1), .val (.double x1), .second, .val (.double x2), .second, .val (.int 2)] [(.double x1), (.int 2), (.ref ts)])) rfl rfl (hb hby d7_15)
  refine WP.st st87 ?_
  clear st87
  have Vn : Arv Z h87 ts ks .double (3 : Int32) [s0, s1, (.double x1)] (.double 0) := Arv.set Ar86 q86 S86 N86 H86 G86 rfl W87 2 rfl (Nat.le_of_ble_eq_true rfl)
  replace E_a1 := E_a1.wr W87
  replace F_a1_nodes := F_a1_nodes.other W87 (Or.inl ne_a1_ts)
  replace F_a1_seconds := F_a1_seconds.other W87 (Or.inl ne_a1_ts)
  replace F_a1_metres := F_a1_metres.other W87 (Or.inl ne_a1_ts)
  replace F_a1_position := F_a1_position.other W87 (Or.inl ne_a1_ts)
  replace F_a1_size := F_a1_size.other W87 (Or.inl ne_a1_ts)
  replace V_tm := V_tm.other W87 (Ne.symm ne_ts_tm)
  replace V_tp := V_tp.other W87 (Ne.symm ne_ts_tp)
  replace V_tn := V_tn.other W87 ne_tn_ts
  replace Z0 := Nat.le_trans Z0 (Keep.of_wr W87).1
  replace KP := KP.wr W87 (Or.inl (List.mem_of_getElem? (i := 2) rfl))
  replace V_ts := Vn
  replace NF := Fr.snoc X87 NF g_ts
  clear W87 hin86 q86 S86 N86 H86 G86 Ar86
  show WP p.tables e below _ T87 (mkF m 16 #[.val (.ref a1), .val (.int 1), .val (.double x1), .second, .val (.double x2), .second, .val (.int 2)] [])
  refine WP.st (T' := T87) (f' := (mkF m 17 #[.val (.ref a1), .val (.int 1), .val (.double x1), .second, .val (.double x2), .second, .val (.int 2)] [(.ref a1)])) (fun t k => ?_) ?_
  · refine XS.aloadN X87.here hx rfl (hb hby d7_16) rfl rfl ?_
    exact k
  obtain ⟨T88, X88, e88, st88⟩ := getF X87 hx hZ hown (host := "") (Or.inl (w_15 hw)) Via.refl e87 F_a1_metres (g := (mkF m 17 #[.val (.ref a1), .val (.int 1), .val (.double x1), .second, .val (.double x2), .second, .val (.int 2)] [(.ref a1)])) rfl rfl (hb hby d7_17)
  refine WP.st st88 ?_
  clear st88
  show WP p.tables e below _ T88 (mkF m 20 #[.val (.ref a1), .val (.int 1), .val (.double x1), .second, .val (.double x2), .second, .val (.int 2)] [(.ref tm)])
  refine WP.st (T' := T88) (f' := (mkF m 24 #[.val (.ref a1), .val (.int 1), .val (.double x1), .second, .val (.double x2), .second, .val (.int 2)] [(.double x2), (.int 2), (.ref tm)])) (fun t k => ?_) ?_
  · refine XS.iload X88.here hx rfl (hb hby d7_20) rfl ?_
    refine XS.dload X88.here hx rfl (hb hby d7_22) rfl ?_
    exact k
  obtain ⟨cl89, Ar89, q89, S89, N89, H89, G89⟩ := V_tm
  have hin89 : ¬ ((2 : Int32) < 0 ∨ cl89.slots.size ≤ ((2 : Int32)).toNatClampNeg) := inb_of S89 ⟨by decide, by decide⟩
  obtain ⟨T90, h90, X90, e90, W90, st90⟩ := stD X88 hx hZ e88 Ar89 (j := (2 : Int32)) hin89 (g := (mkF m 24 #[.val (.ref a1), .val (.int 1), .val (.double x1), .second, .val (.double x2), .second, .val (.int 2)] [(.double x2), (.int 2), (.ref tm)])) rfl rfl (hb hby d7_24)
  refine WP.st st90 ?_
  clear st90
  have Vn : Arv Z h90 tm km .double (3 : Int32) [m0, m1, (.double x2)] (.double 0) := Arv.set Ar89 q89 S89 N89 H89 G89 rfl W90 2 rfl (Nat.le_of_ble_eq_true rfl)
  replace E_a1 := E_a1.wr W90
  replace F_a1_nodes := F_a1_nodes.other W90 (Or.inl ne_a1_tm)
  replace F_a1_seconds := F_a1_seconds.other W90 (Or.inl ne_a1_tm)
  replace F_a1_metres := F_a1_metres.other W90 (Or.inl ne_a1_tm)
  replace F_a1_position := F_a1_position.other W90 (Or.inl ne_a1_tm)
  replace F_a1_size := F_a1_size.other W90 (Or.inl ne_a1_tm)
  replace V_tp := V_tp.other W90 (Ne.symm ne_tm_tp)
  replace V_tn := V_tn.other W90 ne_tn_tm
  replace V_ts := V_ts.other W90 ne_ts_tm
  replace Z0 := Nat.le_trans Z0 (Keep.of_wr W90).1
  replace KP := KP.wr W90 (Or.inl (List.mem_of_getElem? (i := 3) rfl))
  replace V_tm := Vn
  replace NF := Fr.snoc X90 NF g_tm
  clear W90 hin89 q89 S89 N89 H89 G89 Ar89
  show WP p.tables e below _ T90 (mkF m 25 #[.val (.ref a1), .val (.int 1), .val (.double x1), .second, .val (.double x2), .second, .val (.int 2)] [])
  refine WP.st (T' := T90) (f' := (mkF m 26 #[.val (.ref a1), .val (.int 1), .val (.double x1), .second, .val (.double x2), .second, .val (.int 2)] [(.ref a1)])) (fun t k => ?_) ?_
  · refine XS.aloadN X90.here hx rfl (hb hby d7_25) rfl rfl ?_
    exact k
  obtain ⟨T91, X91, e91, st91⟩ := getF X90 hx hZ hown (host := "") (Or.inl (w_17 hw)) Via.refl e90 F_a1_position (g := (mkF m 26 #[.val (.ref a1), .val (.int 1), .val (.double x1), .second, .val (.double x2), .second, .val (.int 2)] [(.ref a1)])) rfl rfl (hb hby d7_26)
  refine WP.st st91 ?_
  clear st91
  show WP p.tables e below _ T91 (mkF m 29 #[.val (.ref a1), .val (.int 1), .val (.double x1), .second, .val (.double x2), .second, .val (.int 2)] [(.ref tp)])
  refine WP.st (T' := T91) (f' := (mkF m 34 #[.val (.ref a1), .val (.int 1), .val (.double x1), .second, .val (.double x2), .second, .val (.int 2)] [(.int ((2 : Int32) + (1 : Int32))), (.int 1), (.ref tp)])) (fun t k => ?_) ?_
  · refine XS.iloadN X91.here hx rfl (hb hby d7_29) rfl ?_
    refine XS.iload X91.here hx rfl (hb hby d7_30) rfl ?_
    refine XS.iconst X91.here hx rfl (hb hby d7_32) ?_
    refine XS.iadd X91.here hx rfl (hb hby d7_33) rfl ?_
    exact k
  rw [show ((2 : Int32) + (1 : Int32)) = (3 : Int32) from by decide]
  show WP p.tables e below _ T91 (mkF m 34 #[.val (.ref a1), .val (.int 1), .val (.double x1), .second, .val (.double x2), .second, .val (.int 2)] [(.int 3), (.int 1), (.ref tp)])
  obtain ⟨cl92, Ar92, q92, S92, N92, H92, G92⟩ := V_tp
  have hin92 : ¬ ((1 : Int32) < 0 ∨ cl92.slots.size ≤ ((1 : Int32)).toNatClampNeg) := inb_of S92 ⟨by decide, by decide⟩
  obtain ⟨T93, h93, X93, e93, W93, st93⟩ := stI X91 hx hZ e91 Ar92 (j := (1 : Int32)) hin92 (g := (mkF m 34 #[.val (.ref a1), .val (.int 1), .val (.double x1), .second, .val (.double x2), .second, .val (.int 2)] [(.int 3), (.int 1), (.ref tp)])) rfl rfl (hb hby d7_34)
  refine WP.st st93 ?_
  clear st93
  have Vn : Arv Z h93 tp kp .int (3 : Int32) [p0, (.int 3), p2] (.int 0) := Arv.set Ar92 q92 S92 N92 H92 G92 rfl W93 1 rfl (Nat.le_of_ble_eq_true rfl)
  replace E_a1 := E_a1.wr W93
  replace F_a1_nodes := F_a1_nodes.other W93 (Or.inl ne_a1_tp)
  replace F_a1_seconds := F_a1_seconds.other W93 (Or.inl ne_a1_tp)
  replace F_a1_metres := F_a1_metres.other W93 (Or.inl ne_a1_tp)
  replace F_a1_position := F_a1_position.other W93 (Or.inl ne_a1_tp)
  replace F_a1_size := F_a1_size.other W93 (Or.inl ne_a1_tp)
  replace V_tn := V_tn.other W93 ne_tn_tp
  replace V_ts := V_ts.other W93 ne_ts_tp
  replace V_tm := V_tm.other W93 ne_tm_tp
  replace Z0 := Nat.le_trans Z0 (Keep.of_wr W93).1
  replace KP := KP.wr W93 (Or.inl (List.mem_of_getElem? (i := 4) rfl))
  replace V_tp := Vn
  replace NF := Fr.snoc X93 NF g_tp
  clear W93 hin92 q92 S92 N92 H92 G92 Ar92
  show WP p.tables e below _ T93 (mkF m 35 #[.val (.ref a1), .val (.int 1), .val (.double x1), .second, .val (.double x2), .second, .val (.int 2)] [])
  subst hG
  obtain ⟨fs, hr, hrun, hended, hW, hsame⟩ := X93.leave (v := none) (fun _ => rfl)
  refine WP.fin ⟨_, _, ?_, hrun, hended, _, _, rfl, ?_, ⟨_, rfl⟩, hW, hsame.mono (by decide) (by decide)⟩
  · exact X93.returnOut hx Bd.returns (hb hby d7_35) hr
  · show Q7t11 Z a1 x1 x2 tn ts tm tp kn ks km kp nd0 nd1 nd2 s0 s1 s2 m0 m1 m2 p0 p1 p2 u_size h0 n0 _ T93.heap _
    rw [e93]
    exact ⟨rfl, NF, KP, F_a1_nodes, F_a1_seconds, F_a1_metres, F_a1_position, F_a1_size, V_tn, V_ts, V_tm, V_tp⟩
theorem ef_9t10 (m : MethodId) (z0 : Addr) : entryFrame m #[(.ref z0), (.int 0), (.int 2)] 3 = mkF m 0 #[.val (.ref z0), .val (.int 0), .val (.int 2)] [] := by
  all_goals first | (simp [entryFrame, mkF, argsToLocals, Value.category]; done) | rfl
def Q9t10 (Z : State) (a1 : Addr) (tn : Addr) (ts : Addr) (tm : Addr) (tp : Addr) (kn : ClassId) (ks : ClassId) (km : ClassId) (kp : ClassId) (nd1 : Value) (nd2 : Value) (y1 : UInt64) (s1 : Value) (s2 : Value) (y2 : UInt64) (m1 : Value) (m2 : Value) (p0 : Value) (p1 : Value) (p2 : Value) (u_size : Int32) (h0 : Heap) (n0 : Nat) (v : Option Value) (h : Heap) (L : List Loc) : Prop := v = none ∧ Fr n0 L ∧ Keep h0 h [a1, tn, ts, tm, tp] ∧ Fld Z h a1 "com/example/tandemcab/tandemcab/NodeQueue" "nodes" "[I" (.ref tn) ∧ Fld Z h a1 "com/example/tandemcab/tandemcab/NodeQueue" "seconds" "[D" (.ref ts) ∧ Fld Z h a1 "com/example/tandemcab/tandemcab/NodeQueue" "metres" "[D" (.ref tm) ∧ Fld Z h a1 "com/example/tandemcab/tandemcab/NodeQueue" "position" "[I" (.ref tp) ∧ Fld Z h a1 "com/example/tandemcab/tandemcab/NodeQueue" "size" "I" (.int u_size) ∧ (Arv Z h tn kn .int (3 : Int32) [(.int 1), nd1, (.int 1)] (.int 0)) ∧ (Arv Z h ts ks .double (3 : Int32) [(.double y1), s1, (.double y1)] (.double 0)) ∧ (Arv Z h tm km .double (3 : Int32) [(.double y2), m1, (.double y2)] (.double 0)) ∧ (Arv Z h tp kp .int (3 : Int32) [p0, (.int 3), p2] (.int 0))
set_option maxRecDepth 65536 in
set_option maxHeartbeats 40000000 in
theorem rm9t10 (l : Launch) (Z : State) (a0 : Array Value) (hw : ∀ d ∈ tables_1, d.before a0 Z = true) (wsC : List Jvm.Cond) (a1 : Addr) (tn : Addr) (ts : Addr) (tm : Addr) (tp : Addr) (kn : ClassId) (ks : ClassId) (km : ClassId) (kp : ClassId) (nd1 : Value) (nd2 : Value) (y1 : UInt64) (s1 : Value) (s2 : Value) (y2 : UInt64) (m1 : Value) (m2 : Value) (p0 : Value) (p1 : Value) (p2 : Value) (u_size : Int32) (h0 : Heap) (n0 : Nat) (Z0 : n0 ≤ h0.size) (E_a1 : Exa Z h0 a1 "com/example/tandemcab/tandemcab/NodeQueue") (F_a1_nodes : Fld Z h0 a1 "com/example/tandemcab/tandemcab/NodeQueue" "nodes" "[I" (.ref tn)) (F_a1_seconds : Fld Z h0 a1 "com/example/tandemcab/tandemcab/NodeQueue" "seconds" "[D" (.ref ts)) (F_a1_metres : Fld Z h0 a1 "com/example/tandemcab/tandemcab/NodeQueue" "metres" "[D" (.ref tm)) (F_a1_position : Fld Z h0 a1 "com/example/tandemcab/tandemcab/NodeQueue" "position" "[I" (.ref tp)) (F_a1_size : Fld Z h0 a1 "com/example/tandemcab/tandemcab/NodeQueue" "size" "I" (.int u_size)) (V_tn : Arv Z h0 tn kn .int (3 : Int32) [(.int 1), nd1, nd2] (.int 0)) (V_ts : Arv Z h0 ts ks .double (3 : Int32) [(.double y1), s1, s2] (.double 0)) (V_tm : Arv Z h0 tm km .double (3 : Int32) [(.double y2), m1, m2] (.double 0)) (V_tp : Arv Z h0 tp kp .int (3 : Int32) [p0, p1, p2] (.int 0)) (g_a1 : n0 ≤ a1) (g_tn : n0 ≤ tn) (g_ts : n0 ≤ ts) (g_tm : n0 ≤ tm) (g_tp : n0 ≤ tp) (ne_a1_tn : a1 ≠ tn) (ne_a1_ts : a1 ≠ ts) (ne_a1_tm : a1 ≠ tm) (ne_a1_tp : a1 ≠ tp) (ne_tn_ts : tn ≠ ts) (ne_tn_tm : tn ≠ tm) (ne_tn_tp : tn ≠ tp) (ne_ts_tm : ts ≠ tm) (ne_ts_tp : ts ≠ tp) (ne_tm_tp : tm ≠ tp) :
    MetFree l (⟨"com/example/tandemcab/tandemcab/NodeQueue", "move", "(II)V"⟩ : MethodName) (head1 (Jvm.Cond.code (⟨"com/example/tandemcab/tandemcab/NodeQueue", "move", "(II)V"⟩ : MethodName) prog_49_method_9_code 3 none :: wsC) ({ frames := 1, cells := 0, slots := 0, locals := 18 } : Room)) (fun a U => a = #[(.ref a1), (.int 0), (.int 2)] ∧ Z.Warmed39 U.vm ∧ U.heap = h0) (fun _ _ _ _ _ => True) (fun _ U o U' => ∃ v L, o = .returned v ∧ Q9t10 Z a1 tn ts tm tp kn ks km kp nd1 nd2 y1 s1 s2 y2 m1 m2 p0 p1 p2 u_size h0 n0 v U'.heap L ∧ FrameEnd U o U' L ({ frames := 1, cells := 0, slots := 0, locals := 18 } : Room).cells ({ frames := 1, cells := 0, slots := 0, locals := 18 } : Room).slots) := by
  refine MetFree.of_bodySF (plainFor_of_name pn_0) hisR ?_
  intro p e s m args below meth c s₁ Bd hml0 hP hK
  obtain ⟨rfl, hZ, hh⟩ := hP
  have hx := Bd.exec
  have hby := Bd.bytes
  have hml : c.maxLocals = 3 := hml0
  have hown : s.vm.findClass "com/example/tandemcab/tandemcab/NodeQueue" = some m.cls := findClass_of_methodNamed Bd.named
  have hnm := (name_of_methodNamed Bd.named Bd.method).1
  have X0 : Stand p l e ({ frames := 1, cells := 0, slots := 0, locals := 18 } : Room) s m #[(.ref a1), (.int 0), (.int 2)] below meth c s₁ [] 0 0 := Stand.of_body Bd
  have e0 : s₁.heap = h0 := by rw [← hh, Bd.state]; rfl
  have NF := Fr.nil n0
  have KP : Keep h0 h0 [a1, tn, ts, tm, tp] := Keep.refl h0 _
  refine WP.go ?_
  refine WP.cast (ef_9t10 m a1) ?_
  refine WP.name ?_
  intro G hG
  refine WP.st (T' := s₁) (f' := (mkF m 2 #[.val (.ref a1), .val (.int 0), .val (.int 2)] [(.ref a1), (.ref a1)])) (fun t k => ?_) ?_
  · refine XS.aloadN X0.here hx rfl (hb hby d9_0) rfl rfl ?_
    refine XS.aloadN X0.here hx rfl (hb hby d9_1) rfl rfl ?_
    exact k
  obtain ⟨T94, X94, e94, st94⟩ := getF X0 hx hZ hown (host := "") (Or.inl (w_10 hw)) Via.refl e0 F_a1_nodes (g := (mkF m 2 #[.val (.ref a1), .val (.int 0), .val (.int 2)] [(.ref a1), (.ref a1)])) rfl rfl (hb hby d9_2)
  refine WP.st st94 ?_
  clear st94
  show WP p.tables e below _ T94 (mkF m 5 #[.val (.ref a1), .val (.int 0), .val (.int 2)] [(.ref tn), (.ref a1)])
  refine WP.st (T' := T94) (f' := (mkF m 6 #[.val (.ref a1), .val (.int 0), .val (.int 2)] [(.int 0), (.ref tn), (.ref a1)])) (fun t k => ?_) ?_
  · refine XS.iloadN X94.here hx rfl (hb hby d9_5) rfl ?_
    exact k
  obtain ⟨cl95, Ar95, hin95, hat95, -⟩ := V_tn.rd (j := (0 : Int32)) ⟨by decide, by decide⟩
  replace hat95 : cl95.slots[((0 : Int32)).toNatClampNeg]? = some (.int 1) := hat95
  refine WP.st (T' := T94) (f' := (mkF m 8 #[.val (.ref a1), .val (.int 0), .val (.int 2)] [(.ref a1), (.int 1), (.ref a1)])) (fun t k => ?_) ?_
  · refine X94.iaload hx (j := (0 : Int32)) (v := (.int 1)) (by rw [e94]; exact Ar95.1) (State.isArrayOf_alike hZ.alike Ar95.2.1) Ar95.2.2 hin95 hat95 (g := (mkF m 6 #[.val (.ref a1), .val (.int 0), .val (.int 2)] [(.int 0), (.ref tn), (.ref a1)])) rfl rfl (hb hby d9_6) _ ?_
    refine XS.aloadN X94.here hx rfl (hb hby d9_7) rfl rfl ?_
    exact k
  obtain ⟨T96, X96, e96, st96⟩ := getF X94 hx hZ hown (host := "") (Or.inl (w_13 hw)) Via.refl e94 F_a1_seconds (g := (mkF m 8 #[.val (.ref a1), .val (.int 0), .val (.int 2)] [(.ref a1), (.int 1), (.ref a1)])) rfl rfl (hb hby d9_8)
  refine WP.st st96 ?_
  clear st96
  show WP p.tables e below _ T96 (mkF m 11 #[.val (.ref a1), .val (.int 0), .val (.int 2)] [(.ref ts), (.int 1), (.ref a1)])
  refine WP.st (T' := T96) (f' := (mkF m 12 #[.val (.ref a1), .val (.int 0), .val (.int 2)] [(.int 0), (.ref ts), (.int 1), (.ref a1)])) (fun t k => ?_) ?_
  · refine XS.iloadN X96.here hx rfl (hb hby d9_11) rfl ?_
    exact k
  obtain ⟨cl97, Ar97, hin97, hat97, -⟩ := V_ts.rd (j := (0 : Int32)) ⟨by decide, by decide⟩
  replace hat97 : cl97.slots[((0 : Int32)).toNatClampNeg]? = some (.double y1) := hat97
  refine WP.st (T' := T96) (f' := (mkF m 14 #[.val (.ref a1), .val (.int 0), .val (.int 2)] [(.ref a1), (.double y1), (.int 1), (.ref a1)])) (fun t k => ?_) ?_
  · refine X96.daload hx (j := (0 : Int32)) (v := (.double y1)) (by rw [e96]; exact Ar97.1) (State.isArrayOf_alike hZ.alike Ar97.2.1) Ar97.2.2 hin97 hat97 (g := (mkF m 12 #[.val (.ref a1), .val (.int 0), .val (.int 2)] [(.int 0), (.ref ts), (.int 1), (.ref a1)])) rfl rfl (hb hby d9_12) _ ?_
    refine XS.aloadN X96.here hx rfl (hb hby d9_13) rfl rfl ?_
    exact k
  obtain ⟨T98, X98, e98, st98⟩ := getF X96 hx hZ hown (host := "") (Or.inl (w_15 hw)) Via.refl e96 F_a1_metres (g := (mkF m 14 #[.val (.ref a1), .val (.int 0), .val (.int 2)] [(.ref a1), (.double y1), (.int 1), (.ref a1)])) rfl rfl (hb hby d9_14)
  refine WP.st st98 ?_
  clear st98
  show WP p.tables e below _ T98 (mkF m 17 #[.val (.ref a1), .val (.int 0), .val (.int 2)] [(.ref tm), (.double y1), (.int 1), (.ref a1)])
  refine WP.st (T' := T98) (f' := (mkF m 18 #[.val (.ref a1), .val (.int 0), .val (.int 2)] [(.int 0), (.ref tm), (.double y1), (.int 1), (.ref a1)])) (fun t k => ?_) ?_
  · refine XS.iloadN X98.here hx rfl (hb hby d9_17) rfl ?_
    exact k
  obtain ⟨cl99, Ar99, hin99, hat99, -⟩ := V_tm.rd (j := (0 : Int32)) ⟨by decide, by decide⟩
  replace hat99 : cl99.slots[((0 : Int32)).toNatClampNeg]? = some (.double y2) := hat99
  refine WP.st (T' := T98) (f' := (mkF m 20 #[.val (.ref a1), .val (.int 0), .val (.int 2)] [(.int 2), (.double y2), (.double y1), (.int 1), (.ref a1)])) (fun t k => ?_) ?_
  · refine X98.daload hx (j := (0 : Int32)) (v := (.double y2)) (by rw [e98]; exact Ar99.1) (State.isArrayOf_alike hZ.alike Ar99.2.1) Ar99.2.2 hin99 hat99 (g := (mkF m 18 #[.val (.ref a1), .val (.int 0), .val (.int 2)] [(.int 0), (.ref tm), (.double y1), (.int 1), (.ref a1)])) rfl rfl (hb hby d9_18) _ ?_
    refine XS.iloadN X98.here hx rfl (hb hby d9_19) rfl ?_
    exact k
  obtain ⟨cq100, q100, q100'⟩ := E_a1.cell
  obtain ⟨_, _, ⟨T100, L100, k100, n100⟩, -, X100, ⟨Lc100, hQ100, l100, y100, z100⟩, st100⟩ := X98.privateBack hx (y := (⟨"com/example/tandemcab/tandemcab/NodeQueue", "place", "(IDDI)V"⟩ : MethodName)) hown (mvT hZ (w_41 hw)) (mvT hZ (w_42 hw)) (ownSel (y := (⟨"com/example/tandemcab/tandemcab/NodeQueue", "place", "(IDDI)V"⟩ : MethodName)) (mvT hZ (w_22 hw)) rfl (Cond.privateMethod_at (mvP hZ (w_43 hw) (args := #[]))) (mvT hZ (w_42 hw)) (by decide)) (Cond.privateMethod_at (mvP hZ (w_43 hw) (args := #[]))) (mvT hZ (w_44 hw)) (by decide) (backOf (W := 0) (rm7t11 l Z a0 hw [] a1 y1 y2 tn ts tm tp kn ks km kp (.int 1) nd1 nd2 (.double y1) s1 s2 (.double y2) m1 m2 p0 p1 p2 u_size h0 n0 Z0 E_a1 F_a1_nodes F_a1_seconds F_a1_metres F_a1_position F_a1_size V_tn V_ts V_tm V_tp g_a1 g_tn g_ts g_tm g_tp ne_a1_tn ne_a1_ts ne_a1_tm ne_a1_tp ne_tn_ts ne_tn_tm ne_tn_tp ne_ts_tm ne_ts_tp ne_tm_tp) hZ (w_44 hw) (w_2 hw) (by decide) (by decide)) (g := (mkF m 20 #[.val (.ref a1), .val (.int 0), .val (.int 2)] [(.int 2), (.double y2), (.double y1), (.int 1), (.ref a1)])) rfl (by rw [hml]; rfl) (Steps.refl _) (a := a1) (by rw [e98]; exact q100) q100' (argsL := [(.int 1), (.double y1), (.double y2), (.int 2)]) (rest := []) (lenOf pd_2 rfl) rfl (by show 2 * 0 + _ ≤ _; exact Nat.le_of_eq rfl) (hb hby d9_20) (fun _ _ => ⟨rfl, e98, (by decide : 0 + 0 ≤ _), (by decide : 0 + 0 ≤ _)⟩)
  dsimp only [Pt.U, Pt.locs, Pt.cells, Pt.slots] at X100 l100 y100 z100 st100 hQ100
  subst l100 y100 z100
  obtain ⟨rfl, Nq100, Kq100, nF100_a1_nodes, nF100_a1_seconds, nF100_a1_metres, nF100_a1_position, nF100_a1_size, nA100_tn, nA100_ts, nA100_tm, nA100_tp⟩ := hQ100
  replace NF := Fr.app NF Nq100
  clear Nq100
  refine WP.tr st100 ?_
  clear st100
  obtain ⟨h100, e100⟩ : ∃ h, T100.heap = h := ⟨_, rfl⟩
  rw [e100] at Kq100 nF100_a1_nodes nF100_a1_seconds nF100_a1_metres nF100_a1_position nF100_a1_size nA100_tn nA100_ts nA100_tm nA100_tp
  replace E_a1 := E_a1.keep Kq100
  clear F_a1_nodes
  clear F_a1_seconds
  clear F_a1_metres
  clear F_a1_position
  clear F_a1_size
  clear V_tn
  clear V_ts
  clear V_tm
  clear V_tp
  replace Z0 := Nat.le_trans Z0 Kq100.1
  replace KP := KP.trans Kq100 (allS (Or.inl (List.mem_of_getElem? (i := 0) rfl)) (allS (Or.inl (List.mem_of_getElem? (i := 1) rfl)) (allS (Or.inl (List.mem_of_getElem? (i := 2) rfl)) (allS (Or.inl (List.mem_of_getElem? (i := 3) rfl)) (allS (Or.inl (List.mem_of_getElem? (i := 4) rfl)) all0)))))
  clear Kq100
  have F_a1_nodes := nF100_a1_nodes
  clear nF100_a1_nodes
  have F_a1_seconds := nF100_a1_seconds
  clear nF100_a1_seconds
  have F_a1_metres := nF100_a1_metres
  clear nF100_a1_metres
  have F_a1_position := nF100_a1_position
  clear nF100_a1_position
  have F_a1_size := nF100_a1_size
  clear nF100_a1_size
  have V_tn := nA100_tn
  clear nA100_tn
  have V_ts := nA100_ts
  clear nA100_ts
  have V_tm := nA100_tm
  clear nA100_tm
  have V_tp := nA100_tp
  clear nA100_tp
  show WP p.tables e below _ T100 (mkF m 23 #[.val (.ref a1), .val (.int 0), .val (.int 2)] [])
  subst hG
  obtain ⟨fs, hr, hrun, hended, hW, hsame⟩ := X100.leave (v := none) (fun _ => rfl)
  refine WP.fin ⟨_, _, ?_, hrun, hended, _, _, rfl, ?_, ⟨_, rfl⟩, hW, hsame.mono (by decide) (by decide)⟩
  · exact X100.returnOut hx Bd.returns (hb hby d9_23) hr
  · show Q9t10 Z a1 tn ts tm tp kn ks km kp nd1 nd2 y1 s1 s2 y2 m1 m2 p0 p1 p2 u_size h0 n0 _ T100.heap _
    rw [e100]
    exact ⟨rfl, NF, KP, F_a1_nodes, F_a1_seconds, F_a1_metres, F_a1_position, F_a1_size, V_tn, V_ts, V_tm, V_tp⟩
theorem ef_7t12 (m : MethodId) (z0 : Addr) (z2 : UInt64) (z3 : UInt64) : entryFrame m #[(.ref z0), (.int 2), (.double z2), (.double z3), (.int 0)] 7 = mkF m 0 #[.val (.ref z0), .val (.int 2), .val (.double z2), .second, .val (.double z3), .second, .val (.int 0)] [] := by
  all_goals first | (simp [entryFrame, mkF, argsToLocals, Value.category]; done) | rfl
def Q7t12 (Z : State) (a1 : Addr) (x1 : UInt64) (x2 : UInt64) (tn : Addr) (ts : Addr) (tm : Addr) (tp : Addr) (kn : ClassId) (ks : ClassId) (km : ClassId) (kp : ClassId) (nd0 : Value) (nd1 : Value) (nd2 : Value) (s0 : Value) (s1 : Value) (s2 : Value) (m0 : Value) (m1 : Value) (m2 : Value) (p0 : Value) (p1 : Value) (p2 : Value) (u_size : Int32) (h0 : Heap) (n0 : Nat) (v : Option Value) (h : Heap) (L : List Loc) : Prop := v = none ∧ Fr n0 L ∧ Keep h0 h [a1, tn, ts, tm, tp] ∧ Fld Z h a1 "com/example/tandemcab/tandemcab/NodeQueue" "nodes" "[I" (.ref tn) ∧ Fld Z h a1 "com/example/tandemcab/tandemcab/NodeQueue" "seconds" "[D" (.ref ts) ∧ Fld Z h a1 "com/example/tandemcab/tandemcab/NodeQueue" "metres" "[D" (.ref tm) ∧ Fld Z h a1 "com/example/tandemcab/tandemcab/NodeQueue" "position" "[I" (.ref tp) ∧ Fld Z h a1 "com/example/tandemcab/tandemcab/NodeQueue" "size" "I" (.int u_size) ∧ (Arv Z h tn kn .int (3 : Int32) [(.int 2), nd1, nd2] (.int 0)) ∧ (Arv Z h ts ks .double (3 : Int32) [(.double x1), s1, s2] (.double 0)) ∧ (Arv Z h tm km .double (3 : Int32) [(.double x2), m1, m2] (.double 0)) ∧ (Arv Z h tp kp .int (3 : Int32) [p0, p1, (.int 1)] (.int 0))
set_option maxRecDepth 65536 in
set_option maxHeartbeats 40000000 in
theorem rm7t12 (l : Launch) (Z : State) (a0 : Array Value) (hw : ∀ d ∈ tables_1, d.before a0 Z = true) (wsC : List Jvm.Cond) (a1 : Addr) (x1 : UInt64) (x2 : UInt64) (tn : Addr) (ts : Addr) (tm : Addr) (tp : Addr) (kn : ClassId) (ks : ClassId) (km : ClassId) (kp : ClassId) (nd0 : Value) (nd1 : Value) (nd2 : Value) (s0 : Value) (s1 : Value) (s2 : Value) (m0 : Value) (m1 : Value) (m2 : Value) (p0 : Value) (p1 : Value) (p2 : Value) (u_size : Int32) (h0 : Heap) (n0 : Nat) (Z0 : n0 ≤ h0.size) (E_a1 : Exa Z h0 a1 "com/example/tandemcab/tandemcab/NodeQueue") (F_a1_nodes : Fld Z h0 a1 "com/example/tandemcab/tandemcab/NodeQueue" "nodes" "[I" (.ref tn)) (F_a1_seconds : Fld Z h0 a1 "com/example/tandemcab/tandemcab/NodeQueue" "seconds" "[D" (.ref ts)) (F_a1_metres : Fld Z h0 a1 "com/example/tandemcab/tandemcab/NodeQueue" "metres" "[D" (.ref tm)) (F_a1_position : Fld Z h0 a1 "com/example/tandemcab/tandemcab/NodeQueue" "position" "[I" (.ref tp)) (F_a1_size : Fld Z h0 a1 "com/example/tandemcab/tandemcab/NodeQueue" "size" "I" (.int u_size)) (V_tn : Arv Z h0 tn kn .int (3 : Int32) [nd0, nd1, nd2] (.int 0)) (V_ts : Arv Z h0 ts ks .double (3 : Int32) [s0, s1, s2] (.double 0)) (V_tm : Arv Z h0 tm km .double (3 : Int32) [m0, m1, m2] (.double 0)) (V_tp : Arv Z h0 tp kp .int (3 : Int32) [p0, p1, p2] (.int 0)) (g_a1 : n0 ≤ a1) (g_tn : n0 ≤ tn) (g_ts : n0 ≤ ts) (g_tm : n0 ≤ tm) (g_tp : n0 ≤ tp) (ne_a1_tn : a1 ≠ tn) (ne_a1_ts : a1 ≠ ts) (ne_a1_tm : a1 ≠ tm) (ne_a1_tp : a1 ≠ tp) (ne_tn_ts : tn ≠ ts) (ne_tn_tm : tn ≠ tm) (ne_tn_tp : tn ≠ tp) (ne_ts_tm : ts ≠ tm) (ne_ts_tp : ts ≠ tp) (ne_tm_tp : tm ≠ tp) :
    MetFree l (⟨"com/example/tandemcab/tandemcab/NodeQueue", "place", "(IDDI)V"⟩ : MethodName) (head1 (Jvm.Cond.code (⟨"com/example/tandemcab/tandemcab/NodeQueue", "place", "(IDDI)V"⟩ : MethodName) prog_49_method_10_code 7 none :: wsC) ({ frames := 0, cells := 0, slots := 0, locals := 0 } : Room)) (fun a U => a = #[(.ref a1), (.int 2), (.double x1), (.double x2), (.int 0)] ∧ Z.Warmed39 U.vm ∧ U.heap = h0) (fun _ _ _ _ _ => True) (fun _ U o U' => ∃ v L, o = .returned v ∧ Q7t12 Z a1 x1 x2 tn ts tm tp kn ks km kp nd0 nd1 nd2 s0 s1 s2 m0 m1 m2 p0 p1 p2 u_size h0 n0 v U'.heap L ∧ FrameEnd U o U' L ({ frames := 0, cells := 0, slots := 0, locals := 0 } : Room).cells ({ frames := 0, cells := 0, slots := 0, locals := 0 } : Room).slots) := by
  refine MetFree.of_bodySF (plainFor_of_name pn_0) hisR ?_
  intro p e s m args below meth c s₁ Bd hml0 hP hK
  obtain ⟨rfl, hZ, hh⟩ := hP
  have hx := Bd.exec
  have hby := Bd.bytes
  have hml : c.maxLocals = 7 := hml0
  have hown : s.vm.findClass "com/example/tandemcab/tandemcab/NodeQueue" = some m.cls := findClass_of_methodNamed Bd.named
  have hnm := (name_of_methodNamed Bd.named Bd.method).1
  have X0 : Stand p l e ({ frames := 0, cells := 0, slots := 0, locals := 0 } : Room) s m #[(.ref a1), (.int 2), (.double x1), (.double x2), (.int 0)] below meth c s₁ [] 0 0 := Stand.of_body Bd
  have e0 : s₁.heap = h0 := by rw [← hh, Bd.state]; rfl
  have NF := Fr.nil n0
  have KP : Keep h0 h0 [a1, tn, ts, tm, tp] := Keep.refl h0 _
  refine WP.go ?_
  refine WP.cast (ef_7t12 m a1 x1 x2) ?_
  refine WP.name ?_
  intro G hG
  refine WP.st (T' := s₁) (f' := (mkF m 1 #[.val (.ref a1), .val (.int 2), .val (.double x1), .second, .val (.double x2), .second, .val (.int 0)] [(.ref a1)])) (fun t k => ?_) ?_
  · refine XS.aloadN X0.here hx rfl (hb hby d7_0) rfl rfl ?_
    exact k
  obtain ⟨T101, X101, e101, st101⟩ := getF X0 hx hZ hown (host := "") (Or.inl (w_10 hw)) Via.refl e0 F_a1_nodes (g := (mkF m 1 #[.val (.ref a1), .val (.int 2), .val (.double x1), .second, .val (.double x2), .second, .val (.int 0)] [(.ref a1)])) rfl rfl (hb hby d7_1)
  refine WP.st st101 ?_
  clear st101
  show WP p.tables e below _ T101 (mkF m 4 #[.val (.ref a1), .val (.int 2), .val (.double x1), .second, .val (.double x2), .second, .val (.int 0)] [(.ref tn)])
  refine WP.st (T' := T101) (f' := (mkF m 7 #[.val (.ref a1), .val (.int 2), .val (.double x1), .second, .val (.double x2), .second, .val (.int 0)] [(.int 2), (.int 0), (.ref tn)])) (fun t k => ?_) ?_
  · refine XS.iload X101.here hx rfl (hb hby d7_4) rfl ?_
    refine XS.iloadN X101.here hx rfl (hb hby d7_6) rfl ?_
    exact k
  obtain ⟨cl102, Ar102, q102, S102, N102, H102, G102⟩ := V_tn
  have hin102 : ¬ ((0 : Int32) < 0 ∨ cl102.slots.size ≤ ((0 : Int32)).toNatClampNeg) := inb_of S102 ⟨by decide, by decide⟩
  obtain ⟨T103, h103, X103, e103, W103, st103⟩ := stI X101 hx hZ e101 Ar102 (j := (0 : Int32)) hin102 (g := (mkF m 7 #[.val (.ref a1), .val (.int 2), .val (.double x1), .second, .val (.double x2), .second, .val (.int 0)] [(.int 2), (.int 0), (.ref tn)])) rfl rfl (hb hby d7_7)
  refine WP.st st103 ?_
  clear st103
  have Vn : Arv Z h103 tn kn .int (3 : Int32) [(.int 2), nd1, nd2] (.int 0) := Arv.set Ar102 q102 S102 N102 H102 G102 rfl W103 0 rfl (Nat.le_of_ble_eq_true rfl)
  replace E_a1 := E_a1.wr W103
  replace F_a1_nodes := F_a1_nodes.other W103 (Or.inl ne_a1_tn)
  replace F_a1_seconds := F_a1_seconds.other W103 (Or.inl ne_a1_tn)
  replace F_a1_metres := F_a1_metres.other W103 (Or.inl ne_a1_tn)
  replace F_a1_position := F_a1_position.other W103 (Or.inl ne_a1_tn)
  replace F_a1_size := F_a1_size.other W103 (Or.inl ne_a1_tn)
  replace V_ts := V_ts.other W103 (Ne.symm ne_tn_ts)
  replace V_tm := V_tm.other W103 (Ne.symm ne_tn_tm)
  replace V_tp := V_tp.other W103 (Ne.symm ne_tn_tp)
  replace Z0 := Nat.le_trans Z0 (Keep.of_wr W103).1
  replace KP := KP.wr W103 (Or.inl (List.mem_of_getElem? (i := 1) rfl))
  replace V_tn := Vn
  replace NF := Fr.snoc X103 NF g_tn
  clear W103 hin102 q102 S102 N102 H102 G102 Ar102
  show WP p.tables e below _ T103 (mkF m 8 #[.val (.ref a1), .val (.int 2), .val (.double x1), .second, .val (.double x2), .second, .val (.int 0)] [])
  refine WP.st (T' := T103) (f' := (mkF m 9 #[.val (.ref a1), .val (.int 2), .val (.double x1), .second, .val (.double x2), .second, .val (.int 0)] [(.ref a1)])) (fun t k => ?_) ?_
  · refine XS.aloadN X103.here hx rfl (hb hby d7_8) rfl rfl ?_
    exact k
  obtain ⟨T104, X104, e104, st104⟩ := getF X103 hx hZ hown (host := "") (Or.inl (w_13 hw)) Via.refl e103 F_a1_seconds (g := (mkF m 9 #[.val (.ref a1), .val (.int 2), .val (.double x1), .second, .val (.double x2), .second, .val (.int 0)] [(.ref a1)])) rfl rfl (hb hby d7_9)
  refine WP.st st104 ?_
  clear st104
  show WP p.tables e below _ T104 (mkF m 12 #[.val (.ref a1), .val (.int 2), .val (.double x1), .second, .val (.double x2), .second, .val (.int 0)] [(.ref ts)])
  refine WP.st (T' := T104) (f' := (mkF m 15 #[.val (.ref a1), .val (.int 2), .val (.double x1), .second, .val (.double x2), .second, .val (.int 0)] [(.double x1), (.int 0), (.ref ts)])) (fun t k => ?_) ?_
  · refine XS.iload X104.here hx rfl (hb hby d7_12) rfl ?_
    refine XS.dloadN X104.here hx rfl (hb hby d7_14) rfl ?_
    exact k
  obtain ⟨cl105, Ar105, q105, S105, N105, H105, G105⟩ := V_ts
  have hin105 : ¬ ((0 : Int32) < 0 ∨ cl105.slots.size ≤ ((0 : Int32)).toNatClampNeg) := inb_of S105 ⟨by decide, by decide⟩
  obtain ⟨T106, h106, X106, e106, W106, st106⟩ := stD X104 hx hZ e104 Ar105 (j := (0 : Int32)) hin105 (g := (mkF m 15 #[.val (.ref a1), .val (.int 2), .val (.double x1), .second, .val (.double x2), .second, .val (.int 0)] [(.double x1), (.int 0), (.ref ts)])) rfl rfl (hb hby d7_15)
  refine WP.st st106 ?_
  clear st106
  have Vn : Arv Z h106 ts ks .double (3 : Int32) [(.double x1), s1, s2] (.double 0) := Arv.set Ar105 q105 S105 N105 H105 G105 rfl W106 0 rfl (Nat.le_of_ble_eq_true rfl)
  replace E_a1 := E_a1.wr W106
  replace F_a1_nodes := F_a1_nodes.other W106 (Or.inl ne_a1_ts)
  replace F_a1_seconds := F_a1_seconds.other W106 (Or.inl ne_a1_ts)
  replace F_a1_metres := F_a1_metres.other W106 (Or.inl ne_a1_ts)
  replace F_a1_position := F_a1_position.other W106 (Or.inl ne_a1_ts)
  replace F_a1_size := F_a1_size.other W106 (Or.inl ne_a1_ts)
  replace V_tm := V_tm.other W106 (Ne.symm ne_ts_tm)
  replace V_tp := V_tp.other W106 (Ne.symm ne_ts_tp)
  replace V_tn := V_tn.other W106 ne_tn_ts
  replace Z0 := Nat.le_trans Z0 (Keep.of_wr W106).1
  replace KP := KP.wr W106 (Or.inl (List.mem_of_getElem? (i := 2) rfl))
  replace V_ts := Vn
  replace NF := Fr.snoc X106 NF g_ts
  clear W106 hin105 q105 S105 N105 H105 G105 Ar105
  show WP p.tables e below _ T106 (mkF m 16 #[.val (.ref a1), .val (.int 2), .val (.double x1), .second, .val (.double x2), .second, .val (.int 0)] [])
  refine WP.st (T' := T106) (f' := (mkF m 17 #[.val (.ref a1), .val (.int 2), .val (.double x1), .second, .val (.double x2), .second, .val (.int 0)] [(.ref a1)])) (fun t k => ?_) ?_
  · refine XS.aloadN X106.here hx rfl (hb hby d7_16) rfl rfl ?_
    exact k
  obtain ⟨T107, X107, e107, st107⟩ := getF X106 hx hZ hown (host := "") (Or.inl (w_15 hw)) Via.refl e106 F_a1_metres (g := (mkF m 17 #[.val (.ref a1), .val (.int 2), .val (.double x1), .second, .val (.double x2), .second, .val (.int 0)] [(.ref a1)])) rfl rfl (hb hby d7_17)
  refine WP.st st107 ?_
  clear st107
  show WP p.tables e below _ T107 (mkF m 20 #[.val (.ref a1), .val (.int 2), .val (.double x1), .second, .val (.double x2), .second, .val (.int 0)] [(.ref tm)])
  refine WP.st (T' := T107) (f' := (mkF m 24 #[.val (.ref a1), .val (.int 2), .val (.double x1), .second, .val (.double x2), .second, .val (.int 0)] [(.double x2), (.int 0), (.ref tm)])) (fun t k => ?_) ?_
  · refine XS.iload X107.here hx rfl (hb hby d7_20) rfl ?_
    refine XS.dload X107.here hx rfl (hb hby d7_22) rfl ?_
    exact k
  obtain ⟨cl108, Ar108, q108, S108, N108, H108, G108⟩ := V_tm
  have hin108 : ¬ ((0 : Int32) < 0 ∨ cl108.slots.size ≤ ((0 : Int32)).toNatClampNeg) := inb_of S108 ⟨by decide, by decide⟩
  obtain ⟨T109, h109, X109, e109, W109, st109⟩ := stD X107 hx hZ e107 Ar108 (j := (0 : Int32)) hin108 (g := (mkF m 24 #[.val (.ref a1), .val (.int 2), .val (.double x1), .second, .val (.double x2), .second, .val (.int 0)] [(.double x2), (.int 0), (.ref tm)])) rfl rfl (hb hby d7_24)
  refine WP.st st109 ?_
  clear st109
  have Vn : Arv Z h109 tm km .double (3 : Int32) [(.double x2), m1, m2] (.double 0) := Arv.set Ar108 q108 S108 N108 H108 G108 rfl W109 0 rfl (Nat.le_of_ble_eq_true rfl)
  replace E_a1 := E_a1.wr W109
  replace F_a1_nodes := F_a1_nodes.other W109 (Or.inl ne_a1_tm)
  replace F_a1_seconds := F_a1_seconds.other W109 (Or.inl ne_a1_tm)
  replace F_a1_metres := F_a1_metres.other W109 (Or.inl ne_a1_tm)
  replace F_a1_position := F_a1_position.other W109 (Or.inl ne_a1_tm)
  replace F_a1_size := F_a1_size.other W109 (Or.inl ne_a1_tm)
  replace V_tp := V_tp.other W109 (Ne.symm ne_tm_tp)
  replace V_tn := V_tn.other W109 ne_tn_tm
  replace V_ts := V_ts.other W109 ne_ts_tm
  replace Z0 := Nat.le_trans Z0 (Keep.of_wr W109).1
  replace KP := KP.wr W109 (Or.inl (List.mem_of_getElem? (i := 3) rfl))
  replace V_tm := Vn
  replace NF := Fr.snoc X109 NF g_tm
  clear W109 hin108 q108 S108 N108 H108 G108 Ar108
  show WP p.tables e below _ T109 (mkF m 25 #[.val (.ref a1), .val (.int 2), .val (.double x1), .second, .val (.double x2), .second, .val (.int 0)] [])
  refine WP.st (T' := T109) (f' := (mkF m 26 #[.val (.ref a1), .val (.int 2), .val (.double x1), .second, .val (.double x2), .second, .val (.int 0)] [(.ref a1)])) (fun t k => ?_) ?_
  · refine XS.aloadN X109.here hx rfl (hb hby d7_25) rfl rfl ?_
    exact k
  obtain ⟨T110, X110, e110, st110⟩ := getF X109 hx hZ hown (host := "") (Or.inl (w_17 hw)) Via.refl e109 F_a1_position (g := (mkF m 26 #[.val (.ref a1), .val (.int 2), .val (.double x1), .second, .val (.double x2), .second, .val (.int 0)] [(.ref a1)])) rfl rfl (hb hby d7_26)
  refine WP.st st110 ?_
  clear st110
  show WP p.tables e below _ T110 (mkF m 29 #[.val (.ref a1), .val (.int 2), .val (.double x1), .second, .val (.double x2), .second, .val (.int 0)] [(.ref tp)])
  refine WP.st (T' := T110) (f' := (mkF m 34 #[.val (.ref a1), .val (.int 2), .val (.double x1), .second, .val (.double x2), .second, .val (.int 0)] [(.int ((0 : Int32) + (1 : Int32))), (.int 2), (.ref tp)])) (fun t k => ?_) ?_
  · refine XS.iloadN X110.here hx rfl (hb hby d7_29) rfl ?_
    refine XS.iload X110.here hx rfl (hb hby d7_30) rfl ?_
    refine XS.iconst X110.here hx rfl (hb hby d7_32) ?_
    refine XS.iadd X110.here hx rfl (hb hby d7_33) rfl ?_
    exact k
  rw [show ((0 : Int32) + (1 : Int32)) = (1 : Int32) from by decide]
  show WP p.tables e below _ T110 (mkF m 34 #[.val (.ref a1), .val (.int 2), .val (.double x1), .second, .val (.double x2), .second, .val (.int 0)] [(.int 1), (.int 2), (.ref tp)])
  obtain ⟨cl111, Ar111, q111, S111, N111, H111, G111⟩ := V_tp
  have hin111 : ¬ ((2 : Int32) < 0 ∨ cl111.slots.size ≤ ((2 : Int32)).toNatClampNeg) := inb_of S111 ⟨by decide, by decide⟩
  obtain ⟨T112, h112, X112, e112, W112, st112⟩ := stI X110 hx hZ e110 Ar111 (j := (2 : Int32)) hin111 (g := (mkF m 34 #[.val (.ref a1), .val (.int 2), .val (.double x1), .second, .val (.double x2), .second, .val (.int 0)] [(.int 1), (.int 2), (.ref tp)])) rfl rfl (hb hby d7_34)
  refine WP.st st112 ?_
  clear st112
  have Vn : Arv Z h112 tp kp .int (3 : Int32) [p0, p1, (.int 1)] (.int 0) := Arv.set Ar111 q111 S111 N111 H111 G111 rfl W112 2 rfl (Nat.le_of_ble_eq_true rfl)
  replace E_a1 := E_a1.wr W112
  replace F_a1_nodes := F_a1_nodes.other W112 (Or.inl ne_a1_tp)
  replace F_a1_seconds := F_a1_seconds.other W112 (Or.inl ne_a1_tp)
  replace F_a1_metres := F_a1_metres.other W112 (Or.inl ne_a1_tp)
  replace F_a1_position := F_a1_position.other W112 (Or.inl ne_a1_tp)
  replace F_a1_size := F_a1_size.other W112 (Or.inl ne_a1_tp)
  replace V_tn := V_tn.other W112 ne_tn_tp
  replace V_ts := V_ts.other W112 ne_ts_tp
  replace V_tm := V_tm.other W112 ne_tm_tp
  replace Z0 := Nat.le_trans Z0 (Keep.of_wr W112).1
  replace KP := KP.wr W112 (Or.inl (List.mem_of_getElem? (i := 4) rfl))
  replace V_tp := Vn
  replace NF := Fr.snoc X112 NF g_tp
  clear W112 hin111 q111 S111 N111 H111 G111 Ar111
  show WP p.tables e below _ T112 (mkF m 35 #[.val (.ref a1), .val (.int 2), .val (.double x1), .second, .val (.double x2), .second, .val (.int 0)] [])
  subst hG
  obtain ⟨fs, hr, hrun, hended, hW, hsame⟩ := X112.leave (v := none) (fun _ => rfl)
  refine WP.fin ⟨_, _, ?_, hrun, hended, _, _, rfl, ?_, ⟨_, rfl⟩, hW, hsame.mono (by decide) (by decide)⟩
  · exact X112.returnOut hx Bd.returns (hb hby d7_35) hr
  · show Q7t12 Z a1 x1 x2 tn ts tm tp kn ks km kp nd0 nd1 nd2 s0 s1 s2 m0 m1 m2 p0 p1 p2 u_size h0 n0 _ T112.heap _
    rw [e112]
    exact ⟨rfl, NF, KP, F_a1_nodes, F_a1_seconds, F_a1_metres, F_a1_position, F_a1_size, V_tn, V_ts, V_tm, V_tp⟩
theorem ef_6t9 (m : MethodId) (z0 : Addr) (z2 : UInt64) (z3 : UInt64) : entryFrame m #[(.ref z0), (.int 2), (.double z2), (.double z3), (.int 2)] 8 = mkF m 0 #[.val (.ref z0), .val (.int 2), .val (.double z2), .second, .val (.double z3), .second, .val (.int 2), .unset] [] := by
  all_goals first | (simp [entryFrame, mkF, argsToLocals, Value.category]; done) | rfl
def Q6t9 (Z : State) (a1 : Addr) (x1 : UInt64) (x2 : UInt64) (tn : Addr) (ts : Addr) (tm : Addr) (tp : Addr) (kn : ClassId) (ks : ClassId) (km : ClassId) (kp : ClassId) (nd1 : Value) (nd2 : Value) (y1 : UInt64) (s1 : Value) (s2 : Value) (y2 : UInt64) (m1 : Value) (m2 : Value) (p0 : Value) (p1 : Value) (p2 : Value) (u_size : Int32) (h0 : Heap) (n0 : Nat) (v : Option Value) (h : Heap) (L : List Loc) : Prop := v = none ∧ Fr n0 L ∧ Keep h0 h [a1, tn, ts, tm, tp] ∧ Fld Z h a1 "com/example/tandemcab/tandemcab/NodeQueue" "nodes" "[I" (.ref tn) ∧ Fld Z h a1 "com/example/tandemcab/tandemcab/NodeQueue" "seconds" "[D" (.ref ts) ∧ Fld Z h a1 "com/example/tandemcab/tandemcab/NodeQueue" "metres" "[D" (.ref tm) ∧ Fld Z h a1 "com/example/tandemcab/tandemcab/NodeQueue" "position" "[I" (.ref tp) ∧ Fld Z h a1 "com/example/tandemcab/tandemcab/NodeQueue" "size" "I" (.int u_size) ∧ (Arv Z h tn kn .int (3 : Int32) [(.int 2), nd1, (.int 1)] (.int 0)) ∧ (Arv Z h ts ks .double (3 : Int32) [(.double x1), s1, (.double y1)] (.double 0)) ∧ (Arv Z h tm km .double (3 : Int32) [(.double x2), m1, (.double y2)] (.double 0)) ∧ (Arv Z h tp kp .int (3 : Int32) [p0, (.int 3), (.int 1)] (.int 0))
set_option maxRecDepth 65536 in
set_option maxHeartbeats 40000000 in
theorem rm6t9 (l : Launch) (Z : State) (a0 : Array Value) (hw : ∀ d ∈ tables_1, d.before a0 Z = true) (wsC : List Jvm.Cond) (a1 : Addr) (x1 : UInt64) (x2 : UInt64) (tn : Addr) (ts : Addr) (tm : Addr) (tp : Addr) (kn : ClassId) (ks : ClassId) (km : ClassId) (kp : ClassId) (nd1 : Value) (nd2 : Value) (y1 : UInt64) (s1 : Value) (s2 : Value) (y2 : UInt64) (m1 : Value) (m2 : Value) (p0 : Value) (p1 : Value) (p2 : Value) (u_size : Int32) (h0 : Heap) (n0 : Nat) (Z0 : n0 ≤ h0.size) (E_a1 : Exa Z h0 a1 "com/example/tandemcab/tandemcab/NodeQueue") (F_a1_nodes : Fld Z h0 a1 "com/example/tandemcab/tandemcab/NodeQueue" "nodes" "[I" (.ref tn)) (F_a1_seconds : Fld Z h0 a1 "com/example/tandemcab/tandemcab/NodeQueue" "seconds" "[D" (.ref ts)) (F_a1_metres : Fld Z h0 a1 "com/example/tandemcab/tandemcab/NodeQueue" "metres" "[D" (.ref tm)) (F_a1_position : Fld Z h0 a1 "com/example/tandemcab/tandemcab/NodeQueue" "position" "[I" (.ref tp)) (F_a1_size : Fld Z h0 a1 "com/example/tandemcab/tandemcab/NodeQueue" "size" "I" (.int u_size)) (V_tn : Arv Z h0 tn kn .int (3 : Int32) [(.int 1), nd1, nd2] (.int 0)) (V_ts : Arv Z h0 ts ks .double (3 : Int32) [(.double y1), s1, s2] (.double 0)) (V_tm : Arv Z h0 tm km .double (3 : Int32) [(.double y2), m1, m2] (.double 0)) (V_tp : Arv Z h0 tp kp .int (3 : Int32) [p0, p1, p2] (.int 0)) (g_a1 : n0 ≤ a1) (g_tn : n0 ≤ tn) (g_ts : n0 ≤ ts) (g_tm : n0 ≤ tm) (g_tp : n0 ≤ tp) (ne_a1_tn : a1 ≠ tn) (ne_a1_ts : a1 ≠ ts) (ne_a1_tm : a1 ≠ tm) (ne_a1_tp : a1 ≠ tp) (ne_tn_ts : tn ≠ ts) (ne_tn_tm : tn ≠ tm) (ne_tn_tp : tn ≠ tp) (ne_ts_tm : ts ≠ tm) (ne_ts_tp : ts ≠ tp) (ne_tm_tp : tm ≠ tp) (hbef : ¬ ((own_before x1 x2 y1 y2) = (0 : Int32))) :
    MetFree l (⟨"com/example/tandemcab/tandemcab/NodeQueue", "up", "(IDDI)V"⟩ : MethodName) (head1 (Jvm.Cond.code (⟨"com/example/tandemcab/tandemcab/NodeQueue", "up", "(IDDI)V"⟩ : MethodName) prog_49_method_7_code 8 none :: wsC) ({ frames := 2, cells := 0, slots := 0, locals := 32 } : Room)) (fun a U => a = #[(.ref a1), (.int 2), (.double x1), (.double x2), (.int 2)] ∧ Z.Warmed39 U.vm ∧ U.heap = h0) (fun _ _ _ _ _ => True) (fun _ U o U' => ∃ v L, o = .returned v ∧ Q6t9 Z a1 x1 x2 tn ts tm tp kn ks km kp nd1 nd2 y1 s1 s2 y2 m1 m2 p0 p1 p2 u_size h0 n0 v U'.heap L ∧ FrameEnd U o U' L ({ frames := 2, cells := 0, slots := 0, locals := 32 } : Room).cells ({ frames := 2, cells := 0, slots := 0, locals := 32 } : Room).slots) := by
  refine MetFree.of_bodySF (plainFor_of_name pn_0) hisR ?_
  intro p e s m args below meth c s₁ Bd hml0 hP hK
  obtain ⟨rfl, hZ, hh⟩ := hP
  have hx := Bd.exec
  have hby := Bd.bytes
  have hml : c.maxLocals = 8 := hml0
  have hown : s.vm.findClass "com/example/tandemcab/tandemcab/NodeQueue" = some m.cls := findClass_of_methodNamed Bd.named
  have hnm := (name_of_methodNamed Bd.named Bd.method).1
  have X0 : Stand p l e ({ frames := 2, cells := 0, slots := 0, locals := 32 } : Room) s m #[(.ref a1), (.int 2), (.double x1), (.double x2), (.int 2)] below meth c s₁ [] 0 0 := Stand.of_body Bd
  have e0 : s₁.heap = h0 := by rw [← hh, Bd.state]; rfl
  have NF := Fr.nil n0
  have KP : Keep h0 h0 [a1, tn, ts, tm, tp] := Keep.refl h0 _
  refine WP.go ?_
  refine WP.cast (ef_6t9 m a1 x1 x2) ?_
  refine WP.name ?_
  intro G hG
  refine WP.st (T' := s₁) (f' := (mkF m 9 #[.val (.ref a1), .val (.int 2), .val (.double x1), .second, .val (.double x2), .second, .val (.int 2), .unset] [(.int ((2 : Int32) - (1 : Int32)))])) (fun t k => ?_) ?_
  · refine XS.iload X0.here hx rfl (hb hby d6_0) rfl ?_
    refine XS.ifNo X0.here hx rfl (hb hby d6_2) rfl ((if0 _ _).trans (tlt (by decide : (0 : Int32) < (2 : Int32))).2.2.2) ?_
    refine XS.iload X0.here hx rfl (hb hby d6_5) rfl ?_
    refine XS.iconst X0.here hx rfl (hb hby d6_7) ?_
    refine XS.isub X0.here hx rfl (hb hby d6_8) rfl ?_
    exact k
  rw [show ((2 : Int32) - (1 : Int32)) = (1 : Int32) from by decide]
  show WP p.tables e below _ s₁ (mkF m 9 #[.val (.ref a1), .val (.int 2), .val (.double x1), .second, .val (.double x2), .second, .val (.int 2), .unset] [(.int 1)])
  refine WP.st (T' := s₁) (f' := (mkF m 11 #[.val (.ref a1), .val (.int 2), .val (.double x1), .second, .val (.double x2), .second, .val (.int 2), .unset] [(.int (((1 : Int32).toUInt32 >>> ((1 : Int32) &&& 31).toUInt32).toInt32))])) (fun t k => ?_) ?_
  · refine XS.iconst X0.here hx rfl (hb hby d6_9) ?_
    refine XS.iushr X0.here hx rfl (hb hby d6_10) rfl ?_
    exact k
  rw [show (((1 : Int32).toUInt32 >>> ((1 : Int32) &&& 31).toUInt32).toInt32) = (0 : Int32) from by decide]
  show WP p.tables e below _ s₁ (mkF m 11 #[.val (.ref a1), .val (.int 2), .val (.double x1), .second, .val (.double x2), .second, .val (.int 2), .unset] [(.int 0)])
  refine WP.st (T' := s₁) (f' := (mkF m 17 #[.val (.ref a1), .val (.int 2), .val (.double x1), .second, .val (.double x2), .second, .val (.int 2), .val (.int 0)] [(.ref a1), (.double x2), (.double x1)])) (fun t k => ?_) ?_
  · refine XS.istore X0.here hx rfl (hb hby d6_11) rfl (l' := #[.val (.ref a1), .val (.int 2), .val (.double x1), .second, .val (.double x2), .second, .val (.int 2), .val (.int 0)]) rfl ?_
    refine XS.dloadN X0.here hx rfl (hb hby d6_13) rfl ?_
    refine XS.dload X0.here hx rfl (hb hby d6_14) rfl ?_
    refine XS.aloadN X0.here hx rfl (hb hby d6_16) rfl rfl ?_
    exact k
  obtain ⟨T113, X113, e113, st113⟩ := getF X0 hx hZ hown (host := "") (Or.inl (w_13 hw)) Via.refl e0 F_a1_seconds (g := (mkF m 17 #[.val (.ref a1), .val (.int 2), .val (.double x1), .second, .val (.double x2), .second, .val (.int 2), .val (.int 0)] [(.ref a1), (.double x2), (.double x1)])) rfl rfl (hb hby d6_17)
  refine WP.st st113 ?_
  clear st113
  show WP p.tables e below _ T113 (mkF m 20 #[.val (.ref a1), .val (.int 2), .val (.double x1), .second, .val (.double x2), .second, .val (.int 2), .val (.int 0)] [(.ref ts), (.double x2), (.double x1)])
  refine WP.st (T' := T113) (f' := (mkF m 22 #[.val (.ref a1), .val (.int 2), .val (.double x1), .second, .val (.double x2), .second, .val (.int 2), .val (.int 0)] [(.int 0), (.ref ts), (.double x2), (.double x1)])) (fun t k => ?_) ?_
  · refine XS.iload X113.here hx rfl (hb hby d6_20) rfl ?_
    exact k
  obtain ⟨cl114, Ar114, hin114, hat114, -⟩ := V_ts.rd (j := (0 : Int32)) ⟨by decide, by decide⟩
  replace hat114 : cl114.slots[((0 : Int32)).toNatClampNeg]? = some (.double y1) := hat114
  refine WP.st (T' := T113) (f' := (mkF m 24 #[.val (.ref a1), .val (.int 2), .val (.double x1), .second, .val (.double x2), .second, .val (.int 2), .val (.int 0)] [(.ref a1), (.double y1), (.double x2), (.double x1)])) (fun t k => ?_) ?_
  · refine X113.daload hx (j := (0 : Int32)) (v := (.double y1)) (by rw [e113]; exact Ar114.1) (State.isArrayOf_alike hZ.alike Ar114.2.1) Ar114.2.2 hin114 hat114 (g := (mkF m 22 #[.val (.ref a1), .val (.int 2), .val (.double x1), .second, .val (.double x2), .second, .val (.int 2), .val (.int 0)] [(.int 0), (.ref ts), (.double x2), (.double x1)])) rfl rfl (hb hby d6_22) _ ?_
    refine XS.aloadN X113.here hx rfl (hb hby d6_23) rfl rfl ?_
    exact k
  obtain ⟨T115, X115, e115, st115⟩ := getF X113 hx hZ hown (host := "") (Or.inl (w_15 hw)) Via.refl e113 F_a1_metres (g := (mkF m 24 #[.val (.ref a1), .val (.int 2), .val (.double x1), .second, .val (.double x2), .second, .val (.int 2), .val (.int 0)] [(.ref a1), (.double y1), (.double x2), (.double x1)])) rfl rfl (hb hby d6_24)
  refine WP.st st115 ?_
  clear st115
  show WP p.tables e below _ T115 (mkF m 27 #[.val (.ref a1), .val (.int 2), .val (.double x1), .second, .val (.double x2), .second, .val (.int 2), .val (.int 0)] [(.ref tm), (.double y1), (.double x2), (.double x1)])
  refine WP.st (T' := T115) (f' := (mkF m 29 #[.val (.ref a1), .val (.int 2), .val (.double x1), .second, .val (.double x2), .second, .val (.int 2), .val (.int 0)] [(.int 0), (.ref tm), (.double y1), (.double x2), (.double x1)])) (fun t k => ?_) ?_
  · refine XS.iload X115.here hx rfl (hb hby d6_27) rfl ?_
    exact k
  obtain ⟨cl116, Ar116, hin116, hat116, -⟩ := V_tm.rd (j := (0 : Int32)) ⟨by decide, by decide⟩
  replace hat116 : cl116.slots[((0 : Int32)).toNatClampNeg]? = some (.double y2) := hat116
  refine WP.st (T' := T115) (f' := (mkF m 30 #[.val (.ref a1), .val (.int 2), .val (.double x1), .second, .val (.double x2), .second, .val (.int 2), .val (.int 0)] [(.double y2), (.double y1), (.double x2), (.double x1)])) (fun t k => ?_) ?_
  · refine X115.daload hx (j := (0 : Int32)) (v := (.double y2)) (by rw [e115]; exact Ar116.1) (State.isArrayOf_alike hZ.alike Ar116.2.1) Ar116.2.2 hin116 hat116 (g := (mkF m 29 #[.val (.ref a1), .val (.int 2), .val (.double x1), .second, .val (.double x2), .second, .val (.int 2), .val (.int 0)] [(.int 0), (.ref tm), (.double y1), (.double x2), (.double x1)])) rfl rfl (hb hby d6_29) _ ?_
    exact k
  obtain ⟨_, _, ⟨T117, L117, k117, n117⟩, -, X117, ⟨Lc117, hQ117, l117, y117, z117⟩, st117⟩ := Jvm.LawKit.callS X115 hx (y := (⟨"com/example/tandemcab/tandemcab/NodeQueue", "before", "(DDDD)Z"⟩ : MethodName)) hown (mvT hZ (w_46 hw)) (mvT hZ (w_47 hw)) (mvT hZ (w_2 hw)) (mvT hZ (w_48 hw)) (by decide) (backOf (W := 0) (rm8 l Z a0 hw [] x1 x2 y1 y2 h0 n0 Z0 ) hZ (w_48 hw) (w_2 hw) (by decide) (by decide)) (g := (mkF m 30 #[.val (.ref a1), .val (.int 2), .val (.double x1), .second, .val (.double x2), .second, .val (.int 2), .val (.int 0)] [(.double y2), (.double y1), (.double x2), (.double x1)])) rfl (by rw [hml]; rfl) (argsL := [(.double x1), (.double x2), (.double y1), (.double y2)]) (rest := []) (lenOf pd_4 rfl) rfl (by show 2 * 0 + _ ≤ _; exact Nat.le_of_eq rfl) (hb hby d6_30) (fun _ _ => ⟨rfl, e115, (by decide : 0 + 0 ≤ _), (by decide : 0 + 0 ≤ _)⟩)
  dsimp only [Pt.U, Pt.locs, Pt.cells, Pt.slots] at X117 l117 y117 z117 st117 hQ117
  subst l117 y117 z117
  obtain ⟨rfl, Nq117, Kq117⟩ := hQ117
  replace NF := Fr.app NF Nq117
  clear Nq117
  refine WP.st st117 ?_
  clear st117
  replace Kq117 := Kq117.trans (rfl : h0 = h0)
  show WP p.tables e below _ T117 (mkF m 33 #[.val (.ref a1), .val (.int 2), .val (.double x1), .second, .val (.double x2), .second, .val (.int 2), .val (.int 0)] [(.int (own_before x1 x2 y1 y2))])
  refine WP.st (T' := T117) (f' := (mkF m 44 #[.val (.ref a1), .val (.int 2), .val (.double x1), .second, .val (.double x2), .second, .val (.int 2), .val (.int 0)] [(.int 2), (.int 0), (.ref a1)])) (fun t k => ?_) ?_
  · refine XS.ifYes X117.here hx rfl (pc0 := 33) (pc' := 39) rfl (hb hby d6_33) rfl ((if0 _ _).trans (feq hbef).2) (by decide) (by decide) ?_
    refine XS.aloadN X117.here hx rfl (hb hby d6_39) rfl rfl ?_
    refine XS.iload X117.here hx rfl (hb hby d6_40) rfl ?_
    refine XS.iload X117.here hx rfl (hb hby d6_42) rfl ?_
    exact k
  obtain ⟨cq118, q118, q118'⟩ := E_a1.cell
  obtain ⟨_, _, ⟨T118, L118, k118, n118⟩, -, X118, ⟨Lc118, hQ118, l118, y118, z118⟩, st118⟩ := X117.privateBack hx (y := (⟨"com/example/tandemcab/tandemcab/NodeQueue", "move", "(II)V"⟩ : MethodName)) hown (mvT hZ (w_49 hw)) (mvT hZ (w_50 hw)) (ownSel (y := (⟨"com/example/tandemcab/tandemcab/NodeQueue", "move", "(II)V"⟩ : MethodName)) (mvT hZ (w_22 hw)) rfl (Cond.privateMethod_at (mvP hZ (w_51 hw) (args := #[]))) (mvT hZ (w_50 hw)) (by decide)) (Cond.privateMethod_at (mvP hZ (w_51 hw) (args := #[]))) (mvT hZ (w_52 hw)) (by decide) (backOf (W := 0) (rm9t10 l Z a0 hw [] a1 tn ts tm tp kn ks km kp nd1 nd2 y1 s1 s2 y2 m1 m2 p0 p1 p2 u_size h0 n0 Z0 E_a1 F_a1_nodes F_a1_seconds F_a1_metres F_a1_position F_a1_size V_tn V_ts V_tm V_tp g_a1 g_tn g_ts g_tm g_tp ne_a1_tn ne_a1_ts ne_a1_tm ne_a1_tp ne_tn_ts ne_tn_tm ne_tn_tp ne_ts_tm ne_ts_tp ne_tm_tp) hZ (w_52 hw) (w_2 hw) (by decide) (by decide)) (g := (mkF m 44 #[.val (.ref a1), .val (.int 2), .val (.double x1), .second, .val (.double x2), .second, .val (.int 2), .val (.int 0)] [(.int 2), (.int 0), (.ref a1)])) rfl (by rw [hml]; rfl) (Steps.refl _) (a := a1) (by rw [Kq117]; exact q118) q118' (argsL := [(.int 0), (.int 2)]) (rest := []) (lenOf pd_5 rfl) rfl (by show 2 * 0 + _ ≤ _; exact Nat.le_of_eq rfl) (hb hby d6_44) (fun _ _ => ⟨rfl, Kq117, (by decide : 0 + 0 ≤ _), (by decide : 0 + 0 ≤ _)⟩)
  dsimp only [Pt.U, Pt.locs, Pt.cells, Pt.slots] at X118 l118 y118 z118 st118 hQ118
  subst l118 y118 z118
  obtain ⟨rfl, Nq118, Kq118, nF118_a1_nodes, nF118_a1_seconds, nF118_a1_metres, nF118_a1_position, nF118_a1_size, nA118_tn, nA118_ts, nA118_tm, nA118_tp⟩ := hQ118
  replace NF := Fr.app NF Nq118
  clear Nq118
  refine WP.tr st118 ?_
  clear st118
  obtain ⟨h118, e118⟩ : ∃ h, T118.heap = h := ⟨_, rfl⟩
  rw [e118] at Kq118 nF118_a1_nodes nF118_a1_seconds nF118_a1_metres nF118_a1_position nF118_a1_size nA118_tn nA118_ts nA118_tm nA118_tp
  replace E_a1 := E_a1.keep Kq118
  clear F_a1_nodes
  clear F_a1_seconds
  clear F_a1_metres
  clear F_a1_position
  clear F_a1_size
  clear V_tn
  clear V_ts
  clear V_tm
  clear V_tp
  replace Z0 := Nat.le_trans Z0 Kq118.1
  replace KP := KP.trans Kq118 (allS (Or.inl (List.mem_of_getElem? (i := 0) rfl)) (allS (Or.inl (List.mem_of_getElem? (i := 1) rfl)) (allS (Or.inl (List.mem_of_getElem? (i := 2) rfl)) (allS (Or.inl (List.mem_of_getElem? (i := 3) rfl)) (allS (Or.inl (List.mem_of_getElem? (i := 4) rfl)) all0)))))
  clear Kq118
  have F_a1_nodes := nF118_a1_nodes
  clear nF118_a1_nodes
  have F_a1_seconds := nF118_a1_seconds
  clear nF118_a1_seconds
  have F_a1_metres := nF118_a1_metres
  clear nF118_a1_metres
  have F_a1_position := nF118_a1_position
  clear nF118_a1_position
  have F_a1_size := nF118_a1_size
  clear nF118_a1_size
  have V_tn := nA118_tn
  clear nA118_tn
  have V_ts := nA118_ts
  clear nA118_ts
  have V_tm := nA118_tm
  clear nA118_tm
  have V_tp := nA118_tp
  clear nA118_tp
  show WP p.tables e below _ T118 (mkF m 47 #[.val (.ref a1), .val (.int 2), .val (.double x1), .second, .val (.double x2), .second, .val (.int 2), .val (.int 0)] [])
  refine WP.st (T' := T118) (f' := (mkF m 61 #[.val (.ref a1), .val (.int 2), .val (.double x1), .second, .val (.double x2), .second, .val (.int 0), .val (.int 0)] [(.int 0), (.double x2), (.double x1), (.int 2), (.ref a1)])) (fun t k => ?_) ?_
  · refine XS.iload X118.here hx rfl (hb hby d6_47) rfl ?_
    refine XS.istore X118.here hx rfl (hb hby d6_49) rfl (l' := #[.val (.ref a1), .val (.int 2), .val (.double x1), .second, .val (.double x2), .second, .val (.int 0), .val (.int 0)]) rfl ?_
    refine XS.goto X118.here hx rfl (pc0 := 51) (pc' := 0) rfl (hb hby d6_51) (by decide) (by decide) ?_
    refine XS.iload X118.here hx rfl (hb hby d6_0) rfl ?_
    refine XS.ifYes X118.here hx rfl (pc0 := 2) (pc' := 54) rfl (hb hby d6_2) rfl ((if0 _ _).trans (flt (by decide : ¬ ((0 : Int32) < (0 : Int32)))).2.2.2) (by decide) (by decide) ?_
    refine XS.aloadN X118.here hx rfl (hb hby d6_54) rfl rfl ?_
    refine XS.iloadN X118.here hx rfl (hb hby d6_55) rfl ?_
    refine XS.dloadN X118.here hx rfl (hb hby d6_56) rfl ?_
    show Steps p.tables e below (T118.setTop (mkF m 57 #[.val (.ref a1), .val (.int 2), .val (.double x1), .second, .val (.double x2), .second, .val (.int 0), .val (.int 0)] [(.double x1), (.int 2), (.ref a1)])) t
    refine XS.dload X118.here hx rfl (hb hby d6_57) rfl ?_
    refine XS.iload X118.here hx rfl (hb hby d6_59) rfl ?_
    exact k
  obtain ⟨cq119, q119, q119'⟩ := E_a1.cell
  obtain ⟨_, _, ⟨T119, L119, k119, n119⟩, -, X119, ⟨Lc119, hQ119, l119, y119, z119⟩, st119⟩ := X118.privateBack hx (y := (⟨"com/example/tandemcab/tandemcab/NodeQueue", "place", "(IDDI)V"⟩ : MethodName)) hown (mvT hZ (w_41 hw)) (mvT hZ (w_42 hw)) (ownSel (y := (⟨"com/example/tandemcab/tandemcab/NodeQueue", "place", "(IDDI)V"⟩ : MethodName)) (mvT hZ (w_22 hw)) rfl (Cond.privateMethod_at (mvP hZ (w_43 hw) (args := #[]))) (mvT hZ (w_42 hw)) (by decide)) (Cond.privateMethod_at (mvP hZ (w_43 hw) (args := #[]))) (mvT hZ (w_44 hw)) (by decide) (backOf (W := 0) (rm7t12 l Z a0 hw [] a1 x1 x2 tn ts tm tp kn ks km kp (.int 1) nd1 (.int 1) (.double y1) s1 (.double y1) (.double y2) m1 (.double y2) p0 (.int 3) p2 u_size h118 n0 Z0 E_a1 F_a1_nodes F_a1_seconds F_a1_metres F_a1_position F_a1_size V_tn V_ts V_tm V_tp g_a1 g_tn g_ts g_tm g_tp ne_a1_tn ne_a1_ts ne_a1_tm ne_a1_tp ne_tn_ts ne_tn_tm ne_tn_tp ne_ts_tm ne_ts_tp ne_tm_tp) hZ (w_44 hw) (w_2 hw) (by decide) (by decide)) (g := (mkF m 61 #[.val (.ref a1), .val (.int 2), .val (.double x1), .second, .val (.double x2), .second, .val (.int 0), .val (.int 0)] [(.int 0), (.double x2), (.double x1), (.int 2), (.ref a1)])) rfl (by rw [hml]; rfl) (Steps.refl _) (a := a1) (by rw [e118]; exact q119) q119' (argsL := [(.int 2), (.double x1), (.double x2), (.int 0)]) (rest := []) (lenOf pd_2 rfl) rfl (by show 2 * 0 + _ ≤ _; exact Nat.le_of_eq rfl) (hb hby d6_61) (fun _ _ => ⟨rfl, e118, (by decide : 0 + 0 ≤ _), (by decide : 0 + 0 ≤ _)⟩)
  dsimp only [Pt.U, Pt.locs, Pt.cells, Pt.slots] at X119 l119 y119 z119 st119 hQ119
  subst l119 y119 z119
  obtain ⟨rfl, Nq119, Kq119, nF119_a1_nodes, nF119_a1_seconds, nF119_a1_metres, nF119_a1_position, nF119_a1_size, nA119_tn, nA119_ts, nA119_tm, nA119_tp⟩ := hQ119
  replace NF := Fr.app NF Nq119
  clear Nq119
  refine WP.tr st119 ?_
  clear st119
  obtain ⟨h119, e119⟩ : ∃ h, T119.heap = h := ⟨_, rfl⟩
  rw [e119] at Kq119 nF119_a1_nodes nF119_a1_seconds nF119_a1_metres nF119_a1_position nF119_a1_size nA119_tn nA119_ts nA119_tm nA119_tp
  replace E_a1 := E_a1.keep Kq119
  clear F_a1_nodes
  clear F_a1_seconds
  clear F_a1_metres
  clear F_a1_position
  clear F_a1_size
  clear V_tn
  clear V_ts
  clear V_tm
  clear V_tp
  replace Z0 := Nat.le_trans Z0 Kq119.1
  replace KP := KP.trans Kq119 (allS (Or.inl (List.mem_of_getElem? (i := 0) rfl)) (allS (Or.inl (List.mem_of_getElem? (i := 1) rfl)) (allS (Or.inl (List.mem_of_getElem? (i := 2) rfl)) (allS (Or.inl (List.mem_of_getElem? (i := 3) rfl)) (allS (Or.inl (List.mem_of_getElem? (i := 4) rfl)) all0)))))
  clear Kq119
  have F_a1_nodes := nF119_a1_nodes
  clear nF119_a1_nodes
  have F_a1_seconds := nF119_a1_seconds
  clear nF119_a1_seconds
  have F_a1_metres := nF119_a1_metres
  clear nF119_a1_metres
  have F_a1_position := nF119_a1_position
  clear nF119_a1_position
  have F_a1_size := nF119_a1_size
  clear nF119_a1_size
  have V_tn := nA119_tn
  clear nA119_tn
  have V_ts := nA119_ts
  clear nA119_ts
  have V_tm := nA119_tm
  clear nA119_tm
  have V_tp := nA119_tp
  clear nA119_tp
  show WP p.tables e below _ T119 (mkF m 64 #[.val (.ref a1), .val (.int 2), .val (.double x1), .second, .val (.double x2), .second, .val (.int 0), .val (.int 0)] [])
  subst hG
  obtain ⟨fs, hr, hrun, hended, hW, hsame⟩ := X119.leave (v := none) (fun _ => rfl)
  refine WP.fin ⟨_, _, ?_, hrun, hended, _, _, rfl, ?_, ⟨_, rfl⟩, hW, hsame.mono (by decide) (by decide)⟩
  · exact X119.returnOut hx Bd.returns (hb hby d6_64) hr
  · show Q6t9 Z a1 x1 x2 tn ts tm tp kn ks km kp nd1 nd2 y1 s1 s2 y2 m1 m2 p0 p1 p2 u_size h0 n0 _ T119.heap _
    rw [e119]
    exact ⟨rfl, NF, KP, F_a1_nodes, F_a1_seconds, F_a1_metres, F_a1_position, F_a1_size, V_tn, V_ts, V_tm, V_tp⟩
theorem ef_5t8 (m : MethodId) (z0 : Addr) (z2 : UInt64) (z3 : UInt64) : entryFrame m #[(.ref z0), (.int 2), (.double z2), (.double z3)] 7 = mkF m 0 #[.val (.ref z0), .val (.int 2), .val (.double z2), .second, .val (.double z3), .second, .unset] [] := by
  all_goals first | (simp [entryFrame, mkF, argsToLocals, Value.category]; done) | rfl
def Q5t8 (Z : State) (a1 : Addr) (x1 : UInt64) (x2 : UInt64) (tn : Addr) (ts : Addr) (tm : Addr) (tp : Addr) (kn : ClassId) (ks : ClassId) (km : ClassId) (kp : ClassId) (nd1 : Value) (nd2 : Value) (y1 : UInt64) (s1 : Value) (s2 : Value) (y2 : UInt64) (m1 : Value) (m2 : Value) (p0 : Value) (p1 : Value) (h0 : Heap) (n0 : Nat) (v : Option Value) (h : Heap) (L : List Loc) : Prop := v = none ∧ Fr n0 L ∧ Keep h0 h [a1, tn, ts, tm, tp] ∧ Fld Z h a1 "com/example/tandemcab/tandemcab/NodeQueue" "nodes" "[I" (.ref tn) ∧ Fld Z h a1 "com/example/tandemcab/tandemcab/NodeQueue" "seconds" "[D" (.ref ts) ∧ Fld Z h a1 "com/example/tandemcab/tandemcab/NodeQueue" "metres" "[D" (.ref tm) ∧ Fld Z h a1 "com/example/tandemcab/tandemcab/NodeQueue" "position" "[I" (.ref tp) ∧ Fld Z h a1 "com/example/tandemcab/tandemcab/NodeQueue" "size" "I" (.int 3) ∧ (Arv Z h tn kn .int (3 : Int32) [(.int 2), nd1, (.int 1)] (.int 0)) ∧ (Arv Z h ts ks .double (3 : Int32) [(.double x1), s1, (.double y1)] (.double 0)) ∧ (Arv Z h tm km .double (3 : Int32) [(.double x2), m1, (.double y2)] (.double 0)) ∧ (Arv Z h tp kp .int (3 : Int32) [p0, (.int 3), (.int 1)] (.int 0))
set_option maxRecDepth 65536 in
set_option maxHeartbeats 40000000 in
theorem rm5t8 (l : Launch) (Z : State) (a0 : Array Value) (hw : ∀ d ∈ tables_1, d.before a0 Z = true) (wsC : List Jvm.Cond) (a1 : Addr) (x1 : UInt64) (x2 : UInt64) (tn : Addr) (ts : Addr) (tm : Addr) (tp : Addr) (kn : ClassId) (ks : ClassId) (km : ClassId) (kp : ClassId) (nd1 : Value) (nd2 : Value) (y1 : UInt64) (s1 : Value) (s2 : Value) (y2 : UInt64) (m1 : Value) (m2 : Value) (p0 : Value) (p1 : Value) (h0 : Heap) (n0 : Nat) (Z0 : n0 ≤ h0.size) (E_a1 : Exa Z h0 a1 "com/example/tandemcab/tandemcab/NodeQueue") (F_a1_nodes : Fld Z h0 a1 "com/example/tandemcab/tandemcab/NodeQueue" "nodes" "[I" (.ref tn)) (F_a1_seconds : Fld Z h0 a1 "com/example/tandemcab/tandemcab/NodeQueue" "seconds" "[D" (.ref ts)) (F_a1_metres : Fld Z h0 a1 "com/example/tandemcab/tandemcab/NodeQueue" "metres" "[D" (.ref tm)) (F_a1_position : Fld Z h0 a1 "com/example/tandemcab/tandemcab/NodeQueue" "position" "[I" (.ref tp)) (F_a1_size : Fld Z h0 a1 "com/example/tandemcab/tandemcab/NodeQueue" "size" "I" (.int 2)) (V_tn : Arv Z h0 tn kn .int (3 : Int32) [(.int 1), nd1, nd2] (.int 0)) (V_ts : Arv Z h0 ts ks .double (3 : Int32) [(.double y1), s1, s2] (.double 0)) (V_tm : Arv Z h0 tm km .double (3 : Int32) [(.double y2), m1, m2] (.double 0)) (V_tp : Arv Z h0 tp kp .int (3 : Int32) [p0, p1, (.int 0)] (.int 0)) (g_a1 : n0 ≤ a1) (g_tn : n0 ≤ tn) (g_ts : n0 ≤ ts) (g_tm : n0 ≤ tm) (g_tp : n0 ≤ tp) (ne_a1_tn : a1 ≠ tn) (ne_a1_ts : a1 ≠ ts) (ne_a1_tm : a1 ≠ tm) (ne_a1_tp : a1 ≠ tp) (ne_tn_ts : tn ≠ ts) (ne_tn_tm : tn ≠ tm) (ne_tn_tp : tn ≠ tp) (ne_ts_tm : ts ≠ tm) (ne_ts_tp : ts ≠ tp) (ne_tm_tp : tm ≠ tp) (hbef : ¬ ((own_before x1 x2 y1 y2) = (0 : Int32))) :
    MetFree l (⟨"com/example/tandemcab/tandemcab/NodeQueue", "offer", "(IDD)V"⟩ : MethodName) (head1 (Jvm.Cond.code (⟨"com/example/tandemcab/tandemcab/NodeQueue", "offer", "(IDD)V"⟩ : MethodName) prog_49_method_5_code 7 none :: wsC) ({ frames := 3, cells := 0, slots := 0, locals := 51 } : Room)) (fun a U => a = #[(.ref a1), (.int 2), (.double x1), (.double x2)] ∧ Z.Warmed39 U.vm ∧ U.heap = h0) (fun _ _ _ _ _ => True) (fun _ U o U' => ∃ v L, o = .returned v ∧ Q5t8 Z a1 x1 x2 tn ts tm tp kn ks km kp nd1 nd2 y1 s1 s2 y2 m1 m2 p0 p1 h0 n0 v U'.heap L ∧ FrameEnd U o U' L ({ frames := 3, cells := 0, slots := 0, locals := 51 } : Room).cells ({ frames := 3, cells := 0, slots := 0, locals := 51 } : Room).slots) := by
  refine MetFree.of_bodySF (plainFor_of_name pn_0) hisR ?_
  intro p e s m args below meth c s₁ Bd hml0 hP hK
  obtain ⟨rfl, hZ, hh⟩ := hP
  have hx := Bd.exec
  have hby := Bd.bytes
  have hml : c.maxLocals = 7 := hml0
  have hown : s.vm.findClass "com/example/tandemcab/tandemcab/NodeQueue" = some m.cls := findClass_of_methodNamed Bd.named
  have hnm := (name_of_methodNamed Bd.named Bd.method).1
  have X0 : Stand p l e ({ frames := 3, cells := 0, slots := 0, locals := 51 } : Room) s m #[(.ref a1), (.int 2), (.double x1), (.double x2)] below meth c s₁ [] 0 0 := Stand.of_body Bd
  have e0 : s₁.heap = h0 := by rw [← hh, Bd.state]; rfl
  have NF := Fr.nil n0
  have KP : Keep h0 h0 [a1, tn, ts, tm, tp] := Keep.refl h0 _
  refine WP.go ?_
  refine WP.cast (ef_5t8 m a1 x1 x2) ?_
  refine WP.name ?_
  intro G hG
  refine WP.st (T' := s₁) (f' := (mkF m 1 #[.val (.ref a1), .val (.int 2), .val (.double x1), .second, .val (.double x2), .second, .unset] [(.ref a1)])) (fun t k => ?_) ?_
  · refine XS.aloadN X0.here hx rfl (hb hby d5_0) rfl rfl ?_
    exact k
  obtain ⟨T120, X120, e120, st120⟩ := getF X0 hx hZ hown (host := "") (Or.inl (w_17 hw)) Via.refl e0 F_a1_position (g := (mkF m 1 #[.val (.ref a1), .val (.int 2), .val (.double x1), .second, .val (.double x2), .second, .unset] [(.ref a1)])) rfl rfl (hb hby d5_1)
  refine WP.st st120 ?_
  clear st120
  show WP p.tables e below _ T120 (mkF m 4 #[.val (.ref a1), .val (.int 2), .val (.double x1), .second, .val (.double x2), .second, .unset] [(.ref tp)])
  refine WP.st (T' := T120) (f' := (mkF m 5 #[.val (.ref a1), .val (.int 2), .val (.double x1), .second, .val (.double x2), .second, .unset] [(.int 2), (.ref tp)])) (fun t k => ?_) ?_
  · refine XS.iloadN X120.here hx rfl (hb hby d5_4) rfl ?_
    exact k
  obtain ⟨cl121, Ar121, hin121, hat121, -⟩ := V_tp.rd (j := (2 : Int32)) ⟨by decide, by decide⟩
  replace hat121 : cl121.slots[((2 : Int32)).toNatClampNeg]? = some (.int 0) := hat121
  refine WP.st (T' := T120) (f' := (mkF m 8 #[.val (.ref a1), .val (.int 2), .val (.double x1), .second, .val (.double x2), .second, .unset] [(.int ((0 : Int32) - (1 : Int32)))])) (fun t k => ?_) ?_
  · refine X120.iaload hx (j := (2 : Int32)) (v := (.int 0)) (by rw [e120]; exact Ar121.1) (State.isArrayOf_alike hZ.alike Ar121.2.1) Ar121.2.2 hin121 hat121 (g := (mkF m 5 #[.val (.ref a1), .val (.int 2), .val (.double x1), .second, .val (.double x2), .second, .unset] [(.int 2), (.ref tp)])) rfl rfl (hb hby d5_5) _ ?_
    refine XS.iconst X120.here hx rfl (hb hby d5_6) ?_
    refine XS.isub X120.here hx rfl (hb hby d5_7) rfl ?_
    exact k
  rw [show ((0 : Int32) - (1 : Int32)) = (-1 : Int32) from by decide]
  show WP p.tables e below _ T120 (mkF m 8 #[.val (.ref a1), .val (.int 2), .val (.double x1), .second, .val (.double x2), .second, .unset] [(.int (-1))])
  refine WP.st (T' := T120) (f' := (mkF m 22 #[.val (.ref a1), .val (.int 2), .val (.double x1), .second, .val (.double x2), .second, .val (.int (-1))] [(.ref a1), (.ref a1), (.double x2), (.double x1), (.int 2), (.ref a1)])) (fun t k => ?_) ?_
  · refine XS.istore X120.here hx rfl (hb hby d5_8) rfl (l' := #[.val (.ref a1), .val (.int 2), .val (.double x1), .second, .val (.double x2), .second, .val (.int (-1))]) rfl ?_
    refine XS.iload X120.here hx rfl (hb hby d5_10) rfl ?_
    refine XS.ifNo X120.here hx rfl (hb hby d5_12) rfl ((if0 _ _).trans (tlt (by decide : (-1 : Int32) < (0 : Int32))).2.1) ?_
    refine XS.aloadN X120.here hx rfl (hb hby d5_15) rfl rfl ?_
    refine XS.iloadN X120.here hx rfl (hb hby d5_16) rfl ?_
    refine XS.dloadN X120.here hx rfl (hb hby d5_17) rfl ?_
    refine XS.dload X120.here hx rfl (hb hby d5_18) rfl ?_
    refine XS.aloadN X120.here hx rfl (hb hby d5_20) rfl rfl ?_
    show Steps p.tables e below (T120.setTop (mkF m 21 #[.val (.ref a1), .val (.int 2), .val (.double x1), .second, .val (.double x2), .second, .val (.int (-1))] [(.ref a1), (.double x2), (.double x1), (.int 2), (.ref a1)])) t
    refine XS.dup X120.here hx rfl (hb hby d5_21) rfl rfl ?_
    exact k
  obtain ⟨T122, X122, e122, st122⟩ := getF X120 hx hZ hown (host := "") (Or.inl (w_24 hw)) Via.refl e120 F_a1_size (g := (mkF m 22 #[.val (.ref a1), .val (.int 2), .val (.double x1), .second, .val (.double x2), .second, .val (.int (-1))] [(.ref a1), (.ref a1), (.double x2), (.double x1), (.int 2), (.ref a1)])) rfl rfl (hb hby d5_22)
  refine WP.st st122 ?_
  clear st122
  show WP p.tables e below _ T122 (mkF m 25 #[.val (.ref a1), .val (.int 2), .val (.double x1), .second, .val (.double x2), .second, .val (.int (-1))] [(.int 2), (.ref a1), (.double x2), (.double x1), (.int 2), (.ref a1)])
  refine WP.st (T' := T122) (f' := (mkF m 28 #[.val (.ref a1), .val (.int 2), .val (.double x1), .second, .val (.double x2), .second, .val (.int (-1))] [(.int ((2 : Int32) + (1 : Int32))), (.ref a1), (.int 2), (.double x2), (.double x1), (.int 2), (.ref a1)])) (fun t k => ?_) ?_
  · refine XS.dupX1 X122.here hx rfl (hb hby d5_25) rfl rfl rfl ?_
    refine XS.iconst X122.here hx rfl (hb hby d5_26) ?_
    refine XS.iadd X122.here hx rfl (hb hby d5_27) rfl ?_
    exact k
  rw [show ((2 : Int32) + (1 : Int32)) = (3 : Int32) from by decide]
  show WP p.tables e below _ T122 (mkF m 28 #[.val (.ref a1), .val (.int 2), .val (.double x1), .second, .val (.double x2), .second, .val (.int (-1))] [(.int 3), (.ref a1), (.int 2), (.double x2), (.double x1), (.int 2), (.ref a1)])
  obtain ⟨T123, h123, X123, e123, W123, st123⟩ := putF X122 hx hZ hown (host := "") (Or.inl (w_24 hw)) Via.refl e122 F_a1_size E_a1 (Or.inl (w_25 hw)) (w_1 hw) (ty := .int) (by decide) rfl rfl (g := (mkF m 28 #[.val (.ref a1), .val (.int 2), .val (.double x1), .second, .val (.double x2), .second, .val (.int (-1))] [(.int 3), (.ref a1), (.int 2), (.double x2), (.double x1), (.int 2), (.ref a1)])) rfl rfl (hb hby d5_28)
  refine WP.st st123 ?_
  clear st123
  replace E_a1 := E_a1.wr W123
  replace F_a1_nodes := F_a1_nodes.other W123 (Or.inr (sn_16 hw))
  replace F_a1_seconds := F_a1_seconds.other W123 (Or.inr (sn_17 hw))
  replace F_a1_metres := F_a1_metres.other W123 (Or.inr (sn_18 hw))
  replace F_a1_position := F_a1_position.other W123 (Or.inr (sn_19 hw))
  replace F_a1_size := F_a1_size.same W123
  replace V_tn := V_tn.other W123 (Ne.symm ne_a1_tn)
  replace V_ts := V_ts.other W123 (Ne.symm ne_a1_ts)
  replace V_tm := V_tm.other W123 (Ne.symm ne_a1_tm)
  replace V_tp := V_tp.other W123 (Ne.symm ne_a1_tp)
  replace Z0 := Nat.le_trans Z0 (Keep.of_wr W123).1
  replace KP := KP.wr W123 (Or.inl (List.mem_of_getElem? (i := 0) rfl))
  replace NF := Fr.snoc X123 NF g_a1
  clear W123
  show WP p.tables e below _ T123 (mkF m 31 #[.val (.ref a1), .val (.int 2), .val (.double x1), .second, .val (.double x2), .second, .val (.int (-1))] [(.int 2), (.double x2), (.double x1), (.int 2), (.ref a1)])
  obtain ⟨cq124, q124, q124'⟩ := E_a1.cell
  obtain ⟨_, _, ⟨T124, L124, k124, n124⟩, -, X124, ⟨Lc124, hQ124, l124, y124, z124⟩, st124⟩ := X123.privateBack hx (y := (⟨"com/example/tandemcab/tandemcab/NodeQueue", "up", "(IDDI)V"⟩ : MethodName)) hown (mvT hZ (w_37 hw)) (mvT hZ (w_38 hw)) (ownSel (y := (⟨"com/example/tandemcab/tandemcab/NodeQueue", "up", "(IDDI)V"⟩ : MethodName)) (mvT hZ (w_22 hw)) rfl (Cond.privateMethod_at (mvP hZ (w_39 hw) (args := #[]))) (mvT hZ (w_38 hw)) (by decide)) (Cond.privateMethod_at (mvP hZ (w_39 hw) (args := #[]))) (mvT hZ (w_40 hw)) (by decide) (backOf (W := 0) (rm6t9 l Z a0 hw [] a1 x1 x2 tn ts tm tp kn ks km kp nd1 nd2 y1 s1 s2 y2 m1 m2 p0 p1 (.int 0) (3 : Int32) h123 n0 Z0 E_a1 F_a1_nodes F_a1_seconds F_a1_metres F_a1_position F_a1_size V_tn V_ts V_tm V_tp g_a1 g_tn g_ts g_tm g_tp ne_a1_tn ne_a1_ts ne_a1_tm ne_a1_tp ne_tn_ts ne_tn_tm ne_tn_tp ne_ts_tm ne_ts_tp ne_tm_tp hbef) hZ (w_40 hw) (w_2 hw) (by decide) (by decide)) (g := (mkF m 31 #[.val (.ref a1), .val (.int 2), .val (.double x1), .second, .val (.double x2), .second, .val (.int (-1))] [(.int 2), (.double x2), (.double x1), (.int 2), (.ref a1)])) rfl (by rw [hml]; rfl) (Steps.refl _) (a := a1) (by rw [e123]; exact q124) q124' (argsL := [(.int 2), (.double x1), (.double x2), (.int 2)]) (rest := []) (lenOf pd_2 rfl) rfl (by show 2 * 0 + _ ≤ _; exact Nat.le_of_eq rfl) (hb hby d5_31) (fun _ _ => ⟨rfl, e123, (by decide : 0 + 0 ≤ _), (by decide : 0 + 0 ≤ _)⟩)
  dsimp only [Pt.U, Pt.locs, Pt.cells, Pt.slots] at X124 l124 y124 z124 st124 hQ124
  subst l124 y124 z124
  obtain ⟨rfl, Nq124, Kq124, nF124_a1_nodes, nF124_a1_seconds, nF124_a1_metres, nF124_a1_position, nF124_a1_size, nA124_tn, nA124_ts, nA124_tm, nA124_tp⟩ := hQ124
  replace NF := Fr.app NF Nq124
  clear Nq124
  refine WP.tr st124 ?_
  clear st124
  obtain ⟨h124, e124⟩ : ∃ h, T124.heap = h := ⟨_, rfl⟩
  rw [e124] at Kq124 nF124_a1_nodes nF124_a1_seconds nF124_a1_metres nF124_a1_position nF124_a1_size nA124_tn nA124_ts nA124_tm nA124_tp
  replace E_a1 := E_a1.keep Kq124
  clear F_a1_nodes
  clear F_a1_seconds
  clear F_a1_metres
  clear F_a1_position
  clear F_a1_size
  clear V_tn
  clear V_ts
  clear V_tm
  clear V_tp
  replace Z0 := Nat.le_trans Z0 Kq124.1
  replace KP := KP.trans Kq124 (allS (Or.inl (List.mem_of_getElem? (i := 0) rfl)) (allS (Or.inl (List.mem_of_getElem? (i := 1) rfl)) (allS (Or.inl (List.mem_of_getElem? (i := 2) rfl)) (allS (Or.inl (List.mem_of_getElem? (i := 3) rfl)) (allS (Or.inl (List.mem_of_getElem? (i := 4) rfl)) all0)))))
  clear Kq124
  have F_a1_nodes := nF124_a1_nodes
  clear nF124_a1_nodes
  have F_a1_seconds := nF124_a1_seconds
  clear nF124_a1_seconds
  have F_a1_metres := nF124_a1_metres
  clear nF124_a1_metres
  have F_a1_position := nF124_a1_position
  clear nF124_a1_position
  have F_a1_size := nF124_a1_size
  clear nF124_a1_size
  have V_tn := nA124_tn
  clear nA124_tn
  have V_ts := nA124_ts
  clear nA124_ts
  have V_tm := nA124_tm
  clear nA124_tm
  have V_tp := nA124_tp
  clear nA124_tp
  show WP p.tables e below _ T124 (mkF m 34 #[.val (.ref a1), .val (.int 2), .val (.double x1), .second, .val (.double x2), .second, .val (.int (-1))] [])
  refine WP.st (T' := T124) (f' := (mkF m 83 #[.val (.ref a1), .val (.int 2), .val (.double x1), .second, .val (.double x2), .second, .val (.int (-1))] [])) (fun t k => ?_) ?_
  · refine XS.goto X124.here hx rfl (pc0 := 34) (pc' := 83) rfl (hb hby d5_34) (by decide) (by decide) ?_
    exact k
  subst hG
  obtain ⟨fs, hr, hrun, hended, hW, hsame⟩ := X124.leave (v := none) (fun _ => rfl)
  refine WP.fin ⟨_, _, ?_, hrun, hended, _, _, rfl, ?_, ⟨_, rfl⟩, hW, hsame.mono (by decide) (by decide)⟩
  · exact X124.returnOut hx Bd.returns (hb hby d5_83) hr
  · show Q5t8 Z a1 x1 x2 tn ts tm tp kn ks km kp nd1 nd2 y1 s1 s2 y2 m1 m2 p0 p1 h0 n0 _ T124.heap _
    rw [e124]
    exact ⟨rfl, NF, KP, F_a1_nodes, F_a1_seconds, F_a1_metres, F_a1_position, F_a1_size, V_tn, V_ts, V_tm, V_tp⟩
theorem ef_11t14 (m : MethodId) (z0 : Addr) (z2 : UInt64) (z3 : UInt64) : entryFrame m #[(.ref z0), (.int 1), (.double z2), (.double z3), (.int 0)] 10 = mkF m 0 #[.val (.ref z0), .val (.int 1), .val (.double z2), .second, .val (.double z3), .second, .val (.int 0), .unset, .unset, .unset] [] := by
  all_goals first | (simp [entryFrame, mkF, argsToLocals, Value.category]; done) | rfl
theorem d11_0 : decode prog_49_method_8_code 0 = .ok (.aload_n 0, 1) := by decide +kernel
theorem d11_1 : decode prog_49_method_8_code 1 = .ok (.getfield 23, 3) := by decide +kernel
theorem d11_4 : decode prog_49_method_8_code 4 = .ok (.iconst 1, 1) := by decide +kernel
theorem d11_5 : decode prog_49_method_8_code 5 = .ok (.iushr, 1) := by decide +kernel
theorem d11_6 : decode prog_49_method_8_code 6 = .ok (.istore 7, 2) := by decide +kernel
theorem d11_8 : decode prog_49_method_8_code 8 = .ok (.iload 6, 2) := by decide +kernel
theorem d11_10 : decode prog_49_method_8_code 10 = .ok (.iload 7, 2) := by decide +kernel
theorem d11_12 : decode prog_49_method_8_code 12 = .ok (.if_icmp .ge 105, 3) := by decide +kernel
theorem d11_15 : decode prog_49_method_8_code 15 = .ok (.iconst 2, 1) := by decide +kernel
theorem d11_16 : decode prog_49_method_8_code 16 = .ok (.iload 6, 2) := by decide +kernel
theorem d11_18 : decode prog_49_method_8_code 18 = .ok (.imul, 1) := by decide +kernel
theorem d11_19 : decode prog_49_method_8_code 19 = .ok (.iconst 1, 1) := by decide +kernel
theorem d11_20 : decode prog_49_method_8_code 20 = .ok (.iadd, 1) := by decide +kernel
theorem d11_21 : decode prog_49_method_8_code 21 = .ok (.istore 8, 2) := by decide +kernel
theorem d11_23 : decode prog_49_method_8_code 23 = .ok (.iload 8, 2) := by decide +kernel
theorem d11_25 : decode prog_49_method_8_code 25 = .ok (.iconst 1, 1) := by decide +kernel
theorem d11_26 : decode prog_49_method_8_code 26 = .ok (.iadd, 1) := by decide +kernel
theorem d11_27 : decode prog_49_method_8_code 27 = .ok (.istore 9, 2) := by decide +kernel
theorem d11_29 : decode prog_49_method_8_code 29 = .ok (.iload 9, 2) := by decide +kernel
theorem d11_31 : decode prog_49_method_8_code 31 = .ok (.aload_n 0, 1) := by decide +kernel
theorem d11_32 : decode prog_49_method_8_code 32 = .ok (.getfield 23, 3) := by decide +kernel
theorem d11_35 : decode prog_49_method_8_code 35 = .ok (.if_icmp .ge 41, 3) := by decide +kernel
theorem d11_76 : decode prog_49_method_8_code 76 = .ok (.aload_n 0, 1) := by decide +kernel
theorem d11_77 : decode prog_49_method_8_code 77 = .ok (.getfield 13, 3) := by decide +kernel
theorem d11_80 : decode prog_49_method_8_code 80 = .ok (.iload 8, 2) := by decide +kernel
theorem d11_82 : decode prog_49_method_8_code 82 = .ok (.daload, 1) := by decide +kernel
theorem d11_83 : decode prog_49_method_8_code 83 = .ok (.aload_n 0, 1) := by decide +kernel
theorem d11_84 : decode prog_49_method_8_code 84 = .ok (.getfield 17, 3) := by decide +kernel
theorem d11_87 : decode prog_49_method_8_code 87 = .ok (.iload 8, 2) := by decide +kernel
theorem d11_89 : decode prog_49_method_8_code 89 = .ok (.daload, 1) := by decide +kernel
theorem d11_90 : decode prog_49_method_8_code 90 = .ok (.dload_n 2, 1) := by decide +kernel
theorem d11_91 : decode prog_49_method_8_code 91 = .ok (.dload 4, 2) := by decide +kernel
theorem d11_93 : decode prog_49_method_8_code 93 = .ok (.invokestatic 31, 3) := by decide +kernel
theorem d11_96 : decode prog_49_method_8_code 96 = .ok (.ifCond .ne 6, 3) := by decide +kernel
theorem d11_99 : decode prog_49_method_8_code 99 = .ok (.goto 18, 3) := by decide +kernel
theorem d11_117 : decode prog_49_method_8_code 117 = .ok (.aload_n 0, 1) := by decide +kernel
theorem d11_118 : decode prog_49_method_8_code 118 = .ok (.iload_n 1, 1) := by decide +kernel
theorem d11_119 : decode prog_49_method_8_code 119 = .ok (.dload_n 2, 1) := by decide +kernel
theorem d11_120 : decode prog_49_method_8_code 120 = .ok (.dload 4, 2) := by decide +kernel
theorem d11_122 : decode prog_49_method_8_code 122 = .ok (.iload 6, 2) := by decide +kernel
theorem d11_124 : decode prog_49_method_8_code 124 = .ok (.invokevirtual 42, 3) := by decide +kernel
theorem d11_127 : decode prog_49_method_8_code 127 = .ok (.return_, 1) := by decide +kernel
def Q11t14 (Z : State) (a1 : Addr) (x1 : UInt64) (x2 : UInt64) (tn : Addr) (ts : Addr) (tm : Addr) (tp : Addr) (kn : ClassId) (ks : ClassId) (km : ClassId) (kp : ClassId) (nd0 : Value) (nd2 : Value) (s0 : Value) (y1 : UInt64) (s2 : Value) (m0 : Value) (y2 : UInt64) (m2 : Value) (p0 : Value) (p1 : Value) (p2 : Value) (h0 : Heap) (n0 : Nat) (v : Option Value) (h : Heap) (L : List Loc) : Prop := v = none ∧ Fr n0 L ∧ Keep h0 h [a1, tn, ts, tm, tp] ∧ Fld Z h a1 "com/example/tandemcab/tandemcab/NodeQueue" "nodes" "[I" (.ref tn) ∧ Fld Z h a1 "com/example/tandemcab/tandemcab/NodeQueue" "seconds" "[D" (.ref ts) ∧ Fld Z h a1 "com/example/tandemcab/tandemcab/NodeQueue" "metres" "[D" (.ref tm) ∧ Fld Z h a1 "com/example/tandemcab/tandemcab/NodeQueue" "position" "[I" (.ref tp) ∧ Fld Z h a1 "com/example/tandemcab/tandemcab/NodeQueue" "size" "I" (.int 2) ∧ (Arv Z h tn kn .int (3 : Int32) [(.int 1), (.int 0), nd2] (.int 0)) ∧ (Arv Z h ts ks .double (3 : Int32) [(.double x1), (.double y1), s2] (.double 0)) ∧ (Arv Z h tm km .double (3 : Int32) [(.double x2), (.double y2), m2] (.double 0)) ∧ (Arv Z h tp kp .int (3 : Int32) [p0, (.int 1), p2] (.int 0))
set_option maxRecDepth 65536 in
set_option maxHeartbeats 40000000 in
theorem rm11t14 (l : Launch) (Z : State) (a0 : Array Value) (hw : ∀ d ∈ tables_1, d.before a0 Z = true) (wsC : List Jvm.Cond) (a1 : Addr) (x1 : UInt64) (x2 : UInt64) (tn : Addr) (ts : Addr) (tm : Addr) (tp : Addr) (kn : ClassId) (ks : ClassId) (km : ClassId) (kp : ClassId) (nd0 : Value) (nd2 : Value) (s0 : Value) (y1 : UInt64) (s2 : Value) (m0 : Value) (y2 : UInt64) (m2 : Value) (p0 : Value) (p1 : Value) (p2 : Value) (h0 : Heap) (n0 : Nat) (Z0 : n0 ≤ h0.size) (E_a1 : Exa Z h0 a1 "com/example/tandemcab/tandemcab/NodeQueue") (F_a1_nodes : Fld Z h0 a1 "com/example/tandemcab/tandemcab/NodeQueue" "nodes" "[I" (.ref tn)) (F_a1_seconds : Fld Z h0 a1 "com/example/tandemcab/tandemcab/NodeQueue" "seconds" "[D" (.ref ts)) (F_a1_metres : Fld Z h0 a1 "com/example/tandemcab/tandemcab/NodeQueue" "metres" "[D" (.ref tm)) (F_a1_position : Fld Z h0 a1 "com/example/tandemcab/tandemcab/NodeQueue" "position" "[I" (.ref tp)) (F_a1_size : Fld Z h0 a1 "com/example/tandemcab/tandemcab/NodeQueue" "size" "I" (.int 2)) (V_tn : Arv Z h0 tn kn .int (3 : Int32) [nd0, (.int 0), nd2] (.int 0)) (V_ts : Arv Z h0 ts ks .double (3 : Int32) [s0, (.double y1), s2] (.double 0)) (V_tm : Arv Z h0 tm km .double (3 : Int32) [m0, (.double y2), m2] (.double 0)) (V_tp : Arv Z h0 tp kp .int (3 : Int32) [p0, p1, p2] (.int 0)) (g_a1 : n0 ≤ a1) (g_tn : n0 ≤ tn) (g_ts : n0 ≤ ts) (g_tm : n0 ≤ tm) (g_tp : n0 ≤ tp) (ne_a1_tn : a1 ≠ tn) (ne_a1_ts : a1 ≠ ts) (ne_a1_tm : a1 ≠ tm) (ne_a1_tp : a1 ≠ tp) (ne_tn_ts : tn ≠ ts) (ne_tn_tm : tn ≠ tm) (ne_tn_tp : tn ≠ tp) (ne_ts_tm : ts ≠ tm) (ne_ts_tp : ts ≠ tp) (ne_tm_tp : tm ≠ tp) (hbef : (own_before y1 y2 x1 x2) = (0 : Int32)) :
    MetFree l (⟨"com/example/tandemcab/tandemcab/NodeQueue", "down", "(IDDI)V"⟩ : MethodName) (head1 (Jvm.Cond.code (⟨"com/example/tandemcab/tandemcab/NodeQueue", "down", "(IDDI)V"⟩ : MethodName) prog_49_method_8_code 10 none :: wsC) ({ frames := 1, cells := 0, slots := 0, locals := 19 } : Room)) (fun a U => a = #[(.ref a1), (.int 1), (.double x1), (.double x2), (.int 0)] ∧ Z.Warmed39 U.vm ∧ U.heap = h0) (fun _ _ _ _ _ => True) (fun _ U o U' => ∃ v L, o = .returned v ∧ Q11t14 Z a1 x1 x2 tn ts tm tp kn ks km kp nd0 nd2 s0 y1 s2 m0 y2 m2 p0 p1 p2 h0 n0 v U'.heap L ∧ FrameEnd U o U' L ({ frames := 1, cells := 0, slots := 0, locals := 19 } : Room).cells ({ frames := 1, cells := 0, slots := 0, locals := 19 } : Room).slots) := by
  refine MetFree.of_bodySF (plainFor_of_name pn_0) hisR ?_
  intro p e s m args below meth c s₁ Bd hml0 hP hK
  obtain ⟨rfl, hZ, hh⟩ := hP
  have hx := Bd.exec
  have hby := Bd.bytes
  have hml : c.maxLocals = 10 := hml0
  have hown : s.vm.findClass "com/example/tandemcab/tandemcab/NodeQueue" = some m.cls := findClass_of_methodNamed Bd.named
  have hnm := (name_of_methodNamed Bd.named Bd.method).1
  have X0 : Stand p l e ({ frames := 1, cells := 0, slots := 0, locals := 19 } : Room) s m #[(.ref a1), (.int 1), (.double x1), (.double x2), (.int 0)] below meth c s₁ [] 0 0 := Stand.of_body Bd
  have e0 : s₁.heap = h0 := by rw [← hh, Bd.state]; rfl
  have NF := Fr.nil n0
  have KP : Keep h0 h0 [a1, tn, ts, tm, tp] := Keep.refl h0 _
  refine WP.go ?_
  refine WP.cast (ef_11t14 m a1 x1 x2) ?_
  refine WP.name ?_
  intro G hG
  refine WP.st (T' := s₁) (f' := (mkF m 1 #[.val (.ref a1), .val (.int 1), .val (.double x1), .second, .val (.double x2), .second, .val (.int 0), .unset, .unset, .unset] [(.ref a1)])) (fun t k => ?_) ?_
  · refine XS.aloadN X0.here hx rfl (hb hby d11_0) rfl rfl ?_
    exact k
  obtain ⟨T126, X126, e126, st126⟩ := getF X0 hx hZ hown (host := "") (Or.inl (w_24 hw)) Via.refl e0 F_a1_size (g := (mkF m 1 #[.val (.ref a1), .val (.int 1), .val (.double x1), .second, .val (.double x2), .second, .val (.int 0), .unset, .unset, .unset] [(.ref a1)])) rfl rfl (hb hby d11_1)
  refine WP.st st126 ?_
  clear st126
  show WP p.tables e below _ T126 (mkF m 4 #[.val (.ref a1), .val (.int 1), .val (.double x1), .second, .val (.double x2), .second, .val (.int 0), .unset, .unset, .unset] [(.int 2)])
  refine WP.st (T' := T126) (f' := (mkF m 6 #[.val (.ref a1), .val (.int 1), .val (.double x1), .second, .val (.double x2), .second, .val (.int 0), .unset, .unset, .unset] [(.int (((2 : Int32).toUInt32 >>> ((1 : Int32) &&& 31).toUInt32).toInt32))])) (fun t k => ?_) ?_
  · refine XS.iconst X126.here hx rfl (hb hby d11_4) ?_
    refine XS.iushr X126.here hx rfl (hb hby d11_5) rfl ?_
    exact k
  rw [show (((2 : Int32).toUInt32 >>> ((1 : Int32) &&& 31).toUInt32).toInt32) = (1 : Int32) from by decide]
  show WP p.tables e below _ T126 (mkF m 6 #[.val (.ref a1), .val (.int 1), .val (.double x1), .second, .val (.double x2), .second, .val (.int 0), .unset, .unset, .unset] [(.int 1)])
  refine WP.st (T' := T126) (f' := (mkF m 19 #[.val (.ref a1), .val (.int 1), .val (.double x1), .second, .val (.double x2), .second, .val (.int 0), .val (.int 1), .unset, .unset] [(.int ((2 : Int32) * (0 : Int32)))])) (fun t k => ?_) ?_
  · refine XS.istore X126.here hx rfl (hb hby d11_6) rfl (l' := #[.val (.ref a1), .val (.int 1), .val (.double x1), .second, .val (.double x2), .second, .val (.int 0), .val (.int 1), .unset, .unset]) rfl ?_
    refine XS.iload X126.here hx rfl (hb hby d11_8) rfl ?_
    refine XS.iload X126.here hx rfl (hb hby d11_10) rfl ?_
    refine XS.icmpNo X126.here hx rfl (hb hby d11_12) rfl (tlt (by decide : (0 : Int32) < (1 : Int32))).2.1 ?_
    refine XS.iconst X126.here hx rfl (hb hby d11_15) ?_
    refine XS.iload X126.here hx rfl (hb hby d11_16) rfl ?_
    refine XS.imul X126.here hx rfl (hb hby d11_18) rfl ?_
    exact k
  rw [show ((2 : Int32) * (0 : Int32)) = (0 : Int32) from by decide]
  show WP p.tables e below _ T126 (mkF m 19 #[.val (.ref a1), .val (.int 1), .val (.double x1), .second, .val (.double x2), .second, .val (.int 0), .val (.int 1), .unset, .unset] [(.int 0)])
  refine WP.st (T' := T126) (f' := (mkF m 21 #[.val (.ref a1), .val (.int 1), .val (.double x1), .second, .val (.double x2), .second, .val (.int 0), .val (.int 1), .unset, .unset] [(.int ((0 : Int32) + (1 : Int32)))])) (fun t k => ?_) ?_
  · refine XS.iconst X126.here hx rfl (hb hby d11_19) ?_
    refine XS.iadd X126.here hx rfl (hb hby d11_20) rfl ?_
    exact k
  rw [show ((0 : Int32) + (1 : Int32)) = (1 : Int32) from by decide]
  show WP p.tables e below _ T126 (mkF m 21 #[.val (.ref a1), .val (.int 1), .val (.double x1), .second, .val (.double x2), .second, .val (.int 0), .val (.int 1), .unset, .unset] [(.int 1)])
  refine WP.st (T' := T126) (f' := (mkF m 27 #[.val (.ref a1), .val (.int 1), .val (.double x1), .second, .val (.double x2), .second, .val (.int 0), .val (.int 1), .val (.int 1), .unset] [(.int ((1 : Int32) + (1 : Int32)))])) (fun t k => ?_) ?_
  · refine XS.istore X126.here hx rfl (hb hby d11_21) rfl (l' := #[.val (.ref a1), .val (.int 1), .val (.double x1), .second, .val (.double x2), .second, .val (.int 0), .val (.int 1), .val (.int 1), .unset]) rfl ?_
    refine XS.iload X126.here hx rfl (hb hby d11_23) rfl ?_
    refine XS.iconst X126.here hx rfl (hb hby d11_25) ?_
    refine XS.iadd X126.here hx rfl (hb hby d11_26) rfl ?_
    exact k
  rw [show ((1 : Int32) + (1 : Int32)) = (2 : Int32) from by decide]
  show WP p.tables e below _ T126 (mkF m 27 #[.val (.ref a1), .val (.int 1), .val (.double x1), .second, .val (.double x2), .second, .val (.int 0), .val (.int 1), .val (.int 1), .unset] [(.int 2)])
  refine WP.st (T' := T126) (f' := (mkF m 32 #[.val (.ref a1), .val (.int 1), .val (.double x1), .second, .val (.double x2), .second, .val (.int 0), .val (.int 1), .val (.int 1), .val (.int 2)] [(.ref a1), (.int 2)])) (fun t k => ?_) ?_
  · refine XS.istore X126.here hx rfl (hb hby d11_27) rfl (l' := #[.val (.ref a1), .val (.int 1), .val (.double x1), .second, .val (.double x2), .second, .val (.int 0), .val (.int 1), .val (.int 1), .val (.int 2)]) rfl ?_
    refine XS.iload X126.here hx rfl (hb hby d11_29) rfl ?_
    refine XS.aloadN X126.here hx rfl (hb hby d11_31) rfl rfl ?_
    exact k
  obtain ⟨T127, X127, e127, st127⟩ := getF X126 hx hZ hown (host := "") (Or.inl (w_24 hw)) Via.refl e126 F_a1_size (g := (mkF m 32 #[.val (.ref a1), .val (.int 1), .val (.double x1), .second, .val (.double x2), .second, .val (.int 0), .val (.int 1), .val (.int 1), .val (.int 2)] [(.ref a1), (.int 2)])) rfl rfl (hb hby d11_32)
  refine WP.st st127 ?_
  clear st127
  show WP p.tables e below _ T127 (mkF m 35 #[.val (.ref a1), .val (.int 1), .val (.double x1), .second, .val (.double x2), .second, .val (.int 0), .val (.int 1), .val (.int 1), .val (.int 2)] [(.int 2), (.int 2)])
  refine WP.st (T' := T127) (f' := (mkF m 77 #[.val (.ref a1), .val (.int 1), .val (.double x1), .second, .val (.double x2), .second, .val (.int 0), .val (.int 1), .val (.int 1), .val (.int 2)] [(.ref a1)])) (fun t k => ?_) ?_
  · refine XS.icmpYes X127.here hx rfl (pc0 := 35) (pc' := 76) rfl (hb hby d11_35) rfl (flt (by decide : ¬ ((2 : Int32) < (2 : Int32)))).2.1 (by decide) (by decide) ?_
    refine XS.aloadN X127.here hx rfl (hb hby d11_76) rfl rfl ?_
    exact k
  obtain ⟨T128, X128, e128, st128⟩ := getF X127 hx hZ hown (host := "") (Or.inl (w_13 hw)) Via.refl e127 F_a1_seconds (g := (mkF m 77 #[.val (.ref a1), .val (.int 1), .val (.double x1), .second, .val (.double x2), .second, .val (.int 0), .val (.int 1), .val (.int 1), .val (.int 2)] [(.ref a1)])) rfl rfl (hb hby d11_77)
  refine WP.st st128 ?_
  clear st128
  show WP p.tables e below _ T128 (mkF m 80 #[.val (.ref a1), .val (.int 1), .val (.double x1), .second, .val (.double x2), .second, .val (.int 0), .val (.int 1), .val (.int 1), .val (.int 2)] [(.ref ts)])
  refine WP.st (T' := T128) (f' := (mkF m 82 #[.val (.ref a1), .val (.int 1), .val (.double x1), .second, .val (.double x2), .second, .val (.int 0), .val (.int 1), .val (.int 1), .val (.int 2)] [(.int 1), (.ref ts)])) (fun t k => ?_) ?_
  · refine XS.iload X128.here hx rfl (hb hby d11_80) rfl ?_
    exact k
  obtain ⟨cl129, Ar129, hin129, hat129, -⟩ := V_ts.rd (j := (1 : Int32)) ⟨by decide, by decide⟩
  replace hat129 : cl129.slots[((1 : Int32)).toNatClampNeg]? = some (.double y1) := hat129
  refine WP.st (T' := T128) (f' := (mkF m 84 #[.val (.ref a1), .val (.int 1), .val (.double x1), .second, .val (.double x2), .second, .val (.int 0), .val (.int 1), .val (.int 1), .val (.int 2)] [(.ref a1), (.double y1)])) (fun t k => ?_) ?_
  · refine X128.daload hx (j := (1 : Int32)) (v := (.double y1)) (by rw [e128]; exact Ar129.1) (State.isArrayOf_alike hZ.alike Ar129.2.1) Ar129.2.2 hin129 hat129 (g := (mkF m 82 #[.val (.ref a1), .val (.int 1), .val (.double x1), .second, .val (.double x2), .second, .val (.int 0), .val (.int 1), .val (.int 1), .val (.int 2)] [(.int 1), (.ref ts)])) rfl rfl (hb hby d11_82) _ ?_
    refine XS.aloadN X128.here hx rfl (hb hby d11_83) rfl rfl ?_
    exact k
  obtain ⟨T130, X130, e130, st130⟩ := getF X128 hx hZ hown (host := "") (Or.inl (w_15 hw)) Via.refl e128 F_a1_metres (g := (mkF m 84 #[.val (.ref a1), .val (.int 1), .val (.double x1), .second, .val (.double x2), .second, .val (.int 0), .val (.int 1), .val (.int 1), .val (.int 2)] [(.ref a1), (.double y1)])) rfl rfl (hb hby d11_84)
  refine WP.st st130 ?_
  clear st130
  show WP p.tables e below _ T130 (mkF m 87 #[.val (.ref a1), .val (.int 1), .val (.double x1), .second, .val (.double x2), .second, .val (.int 0), .val (.int 1), .val (.int 1), .val (.int 2)] [(.ref tm), (.double y1)])
  refine WP.st (T' := T130) (f' := (mkF m 89 #[.val (.ref a1), .val (.int 1), .val (.double x1), .second, .val (.double x2), .second, .val (.int 0), .val (.int 1), .val (.int 1), .val (.int 2)] [(.int 1), (.ref tm), (.double y1)])) (fun t k => ?_) ?_
  · refine XS.iload X130.here hx rfl (hb hby d11_87) rfl ?_
    exact k
  obtain ⟨cl131, Ar131, hin131, hat131, -⟩ := V_tm.rd (j := (1 : Int32)) ⟨by decide, by decide⟩
  replace hat131 : cl131.slots[((1 : Int32)).toNatClampNeg]? = some (.double y2) := hat131
  refine WP.st (T' := T130) (f' := (mkF m 93 #[.val (.ref a1), .val (.int 1), .val (.double x1), .second, .val (.double x2), .second, .val (.int 0), .val (.int 1), .val (.int 1), .val (.int 2)] [(.double x2), (.double x1), (.double y2), (.double y1)])) (fun t k => ?_) ?_
  · refine X130.daload hx (j := (1 : Int32)) (v := (.double y2)) (by rw [e130]; exact Ar131.1) (State.isArrayOf_alike hZ.alike Ar131.2.1) Ar131.2.2 hin131 hat131 (g := (mkF m 89 #[.val (.ref a1), .val (.int 1), .val (.double x1), .second, .val (.double x2), .second, .val (.int 0), .val (.int 1), .val (.int 1), .val (.int 2)] [(.int 1), (.ref tm), (.double y1)])) rfl rfl (hb hby d11_89) _ ?_
    refine XS.dloadN X130.here hx rfl (hb hby d11_90) rfl ?_
    refine XS.dload X130.here hx rfl (hb hby d11_91) rfl ?_
    exact k
  obtain ⟨_, _, ⟨T132, L132, k132, n132⟩, -, X132, ⟨Lc132, hQ132, l132, y132, z132⟩, st132⟩ := Jvm.LawKit.callS X130 hx (y := (⟨"com/example/tandemcab/tandemcab/NodeQueue", "before", "(DDDD)Z"⟩ : MethodName)) hown (mvT hZ (w_46 hw)) (mvT hZ (w_47 hw)) (mvT hZ (w_2 hw)) (mvT hZ (w_48 hw)) (by decide) (backOf (W := 0) (rm8 l Z a0 hw [] y1 y2 x1 x2 h0 n0 Z0 ) hZ (w_48 hw) (w_2 hw) (by decide) (by decide)) (g := (mkF m 93 #[.val (.ref a1), .val (.int 1), .val (.double x1), .second, .val (.double x2), .second, .val (.int 0), .val (.int 1), .val (.int 1), .val (.int 2)] [(.double x2), (.double x1), (.double y2), (.double y1)])) rfl (by rw [hml]; rfl) (argsL := [(.double y1), (.double y2), (.double x1), (.double x2)]) (rest := []) (lenOf pd_4 rfl) rfl (by show 2 * 0 + _ ≤ _; exact Nat.le_of_eq rfl) (hb hby d11_93) (fun _ _ => ⟨rfl, e130, (by decide : 0 + 0 ≤ _), (by decide : 0 + 0 ≤ _)⟩)
  dsimp only [Pt.U, Pt.locs, Pt.cells, Pt.slots] at X132 l132 y132 z132 st132 hQ132
  subst l132 y132 z132
  obtain ⟨rfl, Nq132, Kq132⟩ := hQ132
  replace NF := Fr.app NF Nq132
  clear Nq132
  refine WP.st st132 ?_
  clear st132
  replace Kq132 := Kq132.trans (rfl : h0 = h0)
  show WP p.tables e below _ T132 (mkF m 96 #[.val (.ref a1), .val (.int 1), .val (.double x1), .second, .val (.double x2), .second, .val (.int 0), .val (.int 1), .val (.int 1), .val (.int 2)] [(.int (own_before y1 y2 x1 x2))])
  refine WP.st (T' := T132) (f' := (mkF m 124 #[.val (.ref a1), .val (.int 1), .val (.double x1), .second, .val (.double x2), .second, .val (.int 0), .val (.int 1), .val (.int 1), .val (.int 2)] [(.int 0), (.double x2), (.double x1), (.int 1), (.ref a1)])) (fun t k => ?_) ?_
  · refine XS.ifNo X132.here hx rfl (hb hby d11_96) rfl ((if0 _ _).trans (teq hbef).2) ?_
    refine XS.goto X132.here hx rfl (pc0 := 99) (pc' := 117) rfl (hb hby d11_99) (by decide) (by decide) ?_
    refine XS.aloadN X132.here hx rfl (hb hby d11_117) rfl rfl ?_
    refine XS.iloadN X132.here hx rfl (hb hby d11_118) rfl ?_
    refine XS.dloadN X132.here hx rfl (hb hby d11_119) rfl ?_
    refine XS.dload X132.here hx rfl (hb hby d11_120) rfl ?_
    refine XS.iload X132.here hx rfl (hb hby d11_122) rfl ?_
    exact k
  obtain ⟨cq133, q133, q133'⟩ := E_a1.cell
  obtain ⟨_, _, ⟨T133, L133, k133, n133⟩, -, X133, ⟨Lc133, hQ133, l133, y133, z133⟩, st133⟩ := X132.privateBack hx (y := (⟨"com/example/tandemcab/tandemcab/NodeQueue", "place", "(IDDI)V"⟩ : MethodName)) hown (mvT hZ (w_41 hw)) (mvT hZ (w_42 hw)) (ownSel (y := (⟨"com/example/tandemcab/tandemcab/NodeQueue", "place", "(IDDI)V"⟩ : MethodName)) (mvT hZ (w_22 hw)) rfl (Cond.privateMethod_at (mvP hZ (w_43 hw) (args := #[]))) (mvT hZ (w_42 hw)) (by decide)) (Cond.privateMethod_at (mvP hZ (w_43 hw) (args := #[]))) (mvT hZ (w_44 hw)) (by decide) (backOf (W := 0) (rm7t7 l Z a0 hw [] a1 x1 x2 tn ts tm tp kn ks km kp nd0 (.int 0) nd2 s0 (.double y1) s2 m0 (.double y2) m2 p0 p1 p2 (2 : Int32) h0 n0 Z0 E_a1 F_a1_nodes F_a1_seconds F_a1_metres F_a1_position F_a1_size V_tn V_ts V_tm V_tp g_a1 g_tn g_ts g_tm g_tp ne_a1_tn ne_a1_ts ne_a1_tm ne_a1_tp ne_tn_ts ne_tn_tm ne_tn_tp ne_ts_tm ne_ts_tp ne_tm_tp) hZ (w_44 hw) (w_2 hw) (by decide) (by decide)) (g := (mkF m 124 #[.val (.ref a1), .val (.int 1), .val (.double x1), .second, .val (.double x2), .second, .val (.int 0), .val (.int 1), .val (.int 1), .val (.int 2)] [(.int 0), (.double x2), (.double x1), (.int 1), (.ref a1)])) rfl (by rw [hml]; rfl) (Steps.refl _) (a := a1) (by rw [Kq132]; exact q133) q133' (argsL := [(.int 1), (.double x1), (.double x2), (.int 0)]) (rest := []) (lenOf pd_2 rfl) rfl (by show 2 * 0 + _ ≤ _; exact Nat.le_of_eq rfl) (hb hby d11_124) (fun _ _ => ⟨rfl, Kq132, (by decide : 0 + 0 ≤ _), (by decide : 0 + 0 ≤ _)⟩)
  dsimp only [Pt.U, Pt.locs, Pt.cells, Pt.slots] at X133 l133 y133 z133 st133 hQ133
  subst l133 y133 z133
  obtain ⟨rfl, Nq133, Kq133, nF133_a1_nodes, nF133_a1_seconds, nF133_a1_metres, nF133_a1_position, nF133_a1_size, nA133_tn, nA133_ts, nA133_tm, nA133_tp⟩ := hQ133
  replace NF := Fr.app NF Nq133
  clear Nq133
  refine WP.tr st133 ?_
  clear st133
  obtain ⟨h133, e133⟩ : ∃ h, T133.heap = h := ⟨_, rfl⟩
  rw [e133] at Kq133 nF133_a1_nodes nF133_a1_seconds nF133_a1_metres nF133_a1_position nF133_a1_size nA133_tn nA133_ts nA133_tm nA133_tp
  replace E_a1 := E_a1.keep Kq133
  clear F_a1_nodes
  clear F_a1_seconds
  clear F_a1_metres
  clear F_a1_position
  clear F_a1_size
  clear V_tn
  clear V_ts
  clear V_tm
  clear V_tp
  replace Z0 := Nat.le_trans Z0 Kq133.1
  replace KP := KP.trans Kq133 (allS (Or.inl (List.mem_of_getElem? (i := 0) rfl)) (allS (Or.inl (List.mem_of_getElem? (i := 1) rfl)) (allS (Or.inl (List.mem_of_getElem? (i := 2) rfl)) (allS (Or.inl (List.mem_of_getElem? (i := 3) rfl)) (allS (Or.inl (List.mem_of_getElem? (i := 4) rfl)) all0)))))
  clear Kq133
  have F_a1_nodes := nF133_a1_nodes
  clear nF133_a1_nodes
  have F_a1_seconds := nF133_a1_seconds
  clear nF133_a1_seconds
  have F_a1_metres := nF133_a1_metres
  clear nF133_a1_metres
  have F_a1_position := nF133_a1_position
  clear nF133_a1_position
  have F_a1_size := nF133_a1_size
  clear nF133_a1_size
  have V_tn := nA133_tn
  clear nA133_tn
  have V_ts := nA133_ts
  clear nA133_ts
  have V_tm := nA133_tm
  clear nA133_tm
  have V_tp := nA133_tp
  clear nA133_tp
  show WP p.tables e below _ T133 (mkF m 127 #[.val (.ref a1), .val (.int 1), .val (.double x1), .second, .val (.double x2), .second, .val (.int 0), .val (.int 1), .val (.int 1), .val (.int 2)] [])
  subst hG
  obtain ⟨fs, hr, hrun, hended, hW, hsame⟩ := X133.leave (v := none) (fun _ => rfl)
  refine WP.fin ⟨_, _, ?_, hrun, hended, _, _, rfl, ?_, ⟨_, rfl⟩, hW, hsame.mono (by decide) (by decide)⟩
  · exact X133.returnOut hx Bd.returns (hb hby d11_127) hr
  · show Q11t14 Z a1 x1 x2 tn ts tm tp kn ks km kp nd0 nd2 s0 y1 s2 m0 y2 m2 p0 p1 p2 h0 n0 _ T133.heap _
    rw [e133]
    exact ⟨rfl, NF, KP, F_a1_nodes, F_a1_seconds, F_a1_metres, F_a1_position, F_a1_size, V_tn, V_ts, V_tm, V_tp⟩
theorem ef_10t13 (m : MethodId) (z0 : Addr) : entryFrame m #[(.ref z0)] 2 = mkF m 0 #[.val (.ref z0), .unset] [] := by
  all_goals first | (simp [entryFrame, mkF, argsToLocals, Value.category]; done) | rfl
theorem d10_0 : decode prog_49_method_6_code 0 = .ok (.aload_n 0, 1) := by decide +kernel
theorem d10_1 : decode prog_49_method_6_code 1 = .ok (.getfield 7, 3) := by decide +kernel
theorem d10_4 : decode prog_49_method_6_code 4 = .ok (.iconst 0, 1) := by decide +kernel
theorem d10_5 : decode prog_49_method_6_code 5 = .ok (.iaload, 1) := by decide +kernel
theorem d10_6 : decode prog_49_method_6_code 6 = .ok (.istore_n 1, 1) := by decide +kernel
theorem d10_7 : decode prog_49_method_6_code 7 = .ok (.aload_n 0, 1) := by decide +kernel
theorem d10_8 : decode prog_49_method_6_code 8 = .ok (.getfield 20, 3) := by decide +kernel
theorem d10_11 : decode prog_49_method_6_code 11 = .ok (.iload_n 1, 1) := by decide +kernel
theorem d10_12 : decode prog_49_method_6_code 12 = .ok (.iconst 0, 1) := by decide +kernel
theorem d10_13 : decode prog_49_method_6_code 13 = .ok (.iastore, 1) := by decide +kernel
theorem d10_14 : decode prog_49_method_6_code 14 = .ok (.aload_n 0, 1) := by decide +kernel
theorem d10_15 : decode prog_49_method_6_code 15 = .ok (.dup, 1) := by decide +kernel
theorem d10_16 : decode prog_49_method_6_code 16 = .ok (.getfield 23, 3) := by decide +kernel
theorem d10_19 : decode prog_49_method_6_code 19 = .ok (.iconst 1, 1) := by decide +kernel
theorem d10_20 : decode prog_49_method_6_code 20 = .ok (.isub, 1) := by decide +kernel
theorem d10_21 : decode prog_49_method_6_code 21 = .ok (.putfield 23, 3) := by decide +kernel
theorem d10_24 : decode prog_49_method_6_code 24 = .ok (.aload_n 0, 1) := by decide +kernel
theorem d10_25 : decode prog_49_method_6_code 25 = .ok (.getfield 23, 3) := by decide +kernel
theorem d10_28 : decode prog_49_method_6_code 28 = .ok (.ifCond .le 35, 3) := by decide +kernel
theorem d10_31 : decode prog_49_method_6_code 31 = .ok (.aload_n 0, 1) := by decide +kernel
theorem d10_32 : decode prog_49_method_6_code 32 = .ok (.aload_n 0, 1) := by decide +kernel
theorem d10_33 : decode prog_49_method_6_code 33 = .ok (.getfield 7, 3) := by decide +kernel
theorem d10_36 : decode prog_49_method_6_code 36 = .ok (.aload_n 0, 1) := by decide +kernel
theorem d10_37 : decode prog_49_method_6_code 37 = .ok (.getfield 23, 3) := by decide +kernel
theorem d10_40 : decode prog_49_method_6_code 40 = .ok (.iaload, 1) := by decide +kernel
theorem d10_41 : decode prog_49_method_6_code 41 = .ok (.aload_n 0, 1) := by decide +kernel
theorem d10_42 : decode prog_49_method_6_code 42 = .ok (.getfield 13, 3) := by decide +kernel
theorem d10_45 : decode prog_49_method_6_code 45 = .ok (.aload_n 0, 1) := by decide +kernel
theorem d10_46 : decode prog_49_method_6_code 46 = .ok (.getfield 23, 3) := by decide +kernel
theorem d10_49 : decode prog_49_method_6_code 49 = .ok (.daload, 1) := by decide +kernel
theorem d10_50 : decode prog_49_method_6_code 50 = .ok (.aload_n 0, 1) := by decide +kernel
theorem d10_51 : decode prog_49_method_6_code 51 = .ok (.getfield 17, 3) := by decide +kernel
theorem d10_54 : decode prog_49_method_6_code 54 = .ok (.aload_n 0, 1) := by decide +kernel
theorem d10_55 : decode prog_49_method_6_code 55 = .ok (.getfield 23, 3) := by decide +kernel
theorem d10_58 : decode prog_49_method_6_code 58 = .ok (.daload, 1) := by decide +kernel
theorem d10_59 : decode prog_49_method_6_code 59 = .ok (.iconst 0, 1) := by decide +kernel
theorem w_59 {a0 : Array Value} {Z : State} (hw : ∀ d ∈ tables_1, d.before a0 Z = true) : (Jvm.Cond.methodLink "com/example/tandemcab/tandemcab/NodeQueue" (35 : Nat) ({ cls := "com/example/tandemcab/tandemcab/NodeQueue", name := "down", desc := "(IDDI)V" } : Jvm.MethodName)).before a0 Z = true := hw _ (List.mem_of_getElem? (i := 59) rfl)
theorem d10_60 : decode prog_49_method_6_code 60 = .ok (.invokevirtual 35, 3) := by decide +kernel
theorem w_62 {a0 : Array Value} {Z : State} (hw : ∀ d ∈ tables_1, d.before a0 Z = true) : (Jvm.Cond.code ({ cls := "com/example/tandemcab/tandemcab/NodeQueue", name := "down", desc := "(IDDI)V" } : Jvm.MethodName) prog_49_method_8_code (10 : Nat) (Option.none : Option Jvm.ClassFile.FieldType)).before a0 Z = true := hw _ (List.mem_of_getElem? (i := 62) rfl)
theorem w_61 {a0 : Array Value} {Z : State} (hw : ∀ d ∈ tables_1, d.before a0 Z = true) : (Jvm.Cond.privateMethod ({ cls := "com/example/tandemcab/tandemcab/NodeQueue", name := "down", desc := "(IDDI)V" } : Jvm.MethodName)).before a0 Z = true := hw _ (List.mem_of_getElem? (i := 61) rfl)
theorem w_60 {a0 : Array Value} {Z : State} (hw : ∀ d ∈ tables_1, d.before a0 Z = true) : (Jvm.Cond.instanceMethod ({ cls := "com/example/tandemcab/tandemcab/NodeQueue", name := "down", desc := "(IDDI)V" } : Jvm.MethodName)).before a0 Z = true := hw _ (List.mem_of_getElem? (i := 60) rfl)
theorem d10_63 : decode prog_49_method_6_code 63 = .ok (.iload_n 1, 1) := by decide +kernel
theorem d10_64 : decode prog_49_method_6_code 64 = .ok (.ireturn, 1) := by decide +kernel
def Q10t13 (Z : State) (a1 : Addr) (tn : Addr) (ts : Addr) (tm : Addr) (tp : Addr) (kn : ClassId) (ks : ClassId) (km : ClassId) (kp : ClassId) (s0 : Value) (y1 : UInt64) (z1 : UInt64) (m0 : Value) (y2 : UInt64) (z2 : UInt64) (p0 : Value) (p1 : Value) (p2 : Value) (h0 : Heap) (n0 : Nat) (v : Option Value) (h : Heap) (L : List Loc) : Prop := v = some (.int 2) ∧ Fr n0 L ∧ Keep h0 h [a1, tn, ts, tm, tp] ∧ Fld Z h a1 "com/example/tandemcab/tandemcab/NodeQueue" "nodes" "[I" (.ref tn) ∧ Fld Z h a1 "com/example/tandemcab/tandemcab/NodeQueue" "seconds" "[D" (.ref ts) ∧ Fld Z h a1 "com/example/tandemcab/tandemcab/NodeQueue" "metres" "[D" (.ref tm) ∧ Fld Z h a1 "com/example/tandemcab/tandemcab/NodeQueue" "position" "[I" (.ref tp) ∧ Fld Z h a1 "com/example/tandemcab/tandemcab/NodeQueue" "size" "I" (.int 2) ∧ (Arv Z h tn kn .int (3 : Int32) [(.int 1), (.int 0), (.int 1)] (.int 0)) ∧ (Arv Z h ts ks .double (3 : Int32) [(.double z1), (.double y1), (.double z1)] (.double 0)) ∧ (Arv Z h tm km .double (3 : Int32) [(.double z2), (.double y2), (.double z2)] (.double 0)) ∧ (Arv Z h tp kp .int (3 : Int32) [p0, (.int 1), (.int 0)] (.int 0))
set_option maxRecDepth 65536 in
set_option maxHeartbeats 40000000 in
theorem rm10t13 (l : Launch) (Z : State) (a0 : Array Value) (hw : ∀ d ∈ tables_1, d.before a0 Z = true) (wsC : List Jvm.Cond) (a1 : Addr) (tn : Addr) (ts : Addr) (tm : Addr) (tp : Addr) (kn : ClassId) (ks : ClassId) (km : ClassId) (kp : ClassId) (s0 : Value) (y1 : UInt64) (z1 : UInt64) (m0 : Value) (y2 : UInt64) (z2 : UInt64) (p0 : Value) (p1 : Value) (p2 : Value) (h0 : Heap) (n0 : Nat) (Z0 : n0 ≤ h0.size) (E_a1 : Exa Z h0 a1 "com/example/tandemcab/tandemcab/NodeQueue") (F_a1_nodes : Fld Z h0 a1 "com/example/tandemcab/tandemcab/NodeQueue" "nodes" "[I" (.ref tn)) (F_a1_seconds : Fld Z h0 a1 "com/example/tandemcab/tandemcab/NodeQueue" "seconds" "[D" (.ref ts)) (F_a1_metres : Fld Z h0 a1 "com/example/tandemcab/tandemcab/NodeQueue" "metres" "[D" (.ref tm)) (F_a1_position : Fld Z h0 a1 "com/example/tandemcab/tandemcab/NodeQueue" "position" "[I" (.ref tp)) (F_a1_size : Fld Z h0 a1 "com/example/tandemcab/tandemcab/NodeQueue" "size" "I" (.int 3)) (V_tn : Arv Z h0 tn kn .int (3 : Int32) [(.int 2), (.int 0), (.int 1)] (.int 0)) (V_ts : Arv Z h0 ts ks .double (3 : Int32) [s0, (.double y1), (.double z1)] (.double 0)) (V_tm : Arv Z h0 tm km .double (3 : Int32) [m0, (.double y2), (.double z2)] (.double 0)) (V_tp : Arv Z h0 tp kp .int (3 : Int32) [p0, p1, p2] (.int 0)) (g_a1 : n0 ≤ a1) (g_tn : n0 ≤ tn) (g_ts : n0 ≤ ts) (g_tm : n0 ≤ tm) (g_tp : n0 ≤ tp) (ne_a1_tn : a1 ≠ tn) (ne_a1_ts : a1 ≠ ts) (ne_a1_tm : a1 ≠ tm) (ne_a1_tp : a1 ≠ tp) (ne_tn_ts : tn ≠ ts) (ne_tn_tm : tn ≠ tm) (ne_tn_tp : tn ≠ tp) (ne_ts_tm : ts ≠ tm) (ne_ts_tp : ts ≠ tp) (ne_tm_tp : tm ≠ tp) (hbef : (own_before y1 y2 z1 z2) = (0 : Int32)) :
    MetFree l (⟨"com/example/tandemcab/tandemcab/NodeQueue", "poll", "()I"⟩ : MethodName) (head1 (Jvm.Cond.code (⟨"com/example/tandemcab/tandemcab/NodeQueue", "poll", "()I"⟩ : MethodName) prog_49_method_6_code 2 (some .int) :: wsC) ({ frames := 2, cells := 0, slots := 0, locals := 40 } : Room)) (fun a U => a = #[(.ref a1)] ∧ Z.Warmed39 U.vm ∧ U.heap = h0) (fun _ _ _ _ _ => True) (fun _ U o U' => ∃ v L, o = .returned v ∧ Q10t13 Z a1 tn ts tm tp kn ks km kp s0 y1 z1 m0 y2 z2 p0 p1 p2 h0 n0 v U'.heap L ∧ FrameEnd U o U' L ({ frames := 2, cells := 0, slots := 0, locals := 40 } : Room).cells ({ frames := 2, cells := 0, slots := 0, locals := 40 } : Room).slots) := by
  refine MetFree.of_bodySF (plainFor_of_name pn_0) hisR ?_
  intro p e s m args below meth c s₁ Bd hml0 hP hK
  obtain ⟨rfl, hZ, hh⟩ := hP
  have hx := Bd.exec
  have hby := Bd.bytes
  have hml : c.maxLocals = 2 := hml0
  have hown : s.vm.findClass "com/example/tandemcab/tandemcab/NodeQueue" = some m.cls := findClass_of_methodNamed Bd.named
  have hnm := (name_of_methodNamed Bd.named Bd.method).1
  have X0 : Stand p l e ({ frames := 2, cells := 0, slots := 0, locals := 40 } : Room) s m #[(.ref a1)] below meth c s₁ [] 0 0 := Stand.of_body Bd
  have e0 : s₁.heap = h0 := by rw [← hh, Bd.state]; rfl
  have NF := Fr.nil n0
  have KP : Keep h0 h0 [a1, tn, ts, tm, tp] := Keep.refl h0 _
  refine WP.go ?_
  refine WP.cast (ef_10t13 m a1) ?_
  refine WP.name ?_
  intro G hG
  refine WP.st (T' := s₁) (f' := (mkF m 1 #[.val (.ref a1), .unset] [(.ref a1)])) (fun t k => ?_) ?_
  · refine XS.aloadN X0.here hx rfl (hb hby d10_0) rfl rfl ?_
    exact k
  obtain ⟨T134, X134, e134, st134⟩ := getF X0 hx hZ hown (host := "") (Or.inl (w_10 hw)) Via.refl e0 F_a1_nodes (g := (mkF m 1 #[.val (.ref a1), .unset] [(.ref a1)])) rfl rfl (hb hby d10_1)
  refine WP.st st134 ?_
  clear st134
  show WP p.tables e below _ T134 (mkF m 4 #[.val (.ref a1), .unset] [(.ref tn)])
  refine WP.st (T' := T134) (f' := (mkF m 5 #[.val (.ref a1), .unset] [(.int 0), (.ref tn)])) (fun t k => ?_) ?_
  · refine XS.iconst X134.here hx rfl (hb hby d10_4) ?_
    exact k
  obtain ⟨cl135, Ar135, hin135, hat135, -⟩ := V_tn.rd (j := (0 : Int32)) ⟨by decide, by decide⟩
  replace hat135 : cl135.slots[((0 : Int32)).toNatClampNeg]? = some (.int 2) := hat135
  refine WP.st (T' := T134) (f' := (mkF m 8 #[.val (.ref a1), .val (.int 2)] [(.ref a1)])) (fun t k => ?_) ?_
  · refine X134.iaload hx (j := (0 : Int32)) (v := (.int 2)) (by rw [e134]; exact Ar135.1) (State.isArrayOf_alike hZ.alike Ar135.2.1) Ar135.2.2 hin135 hat135 (g := (mkF m 5 #[.val (.ref a1), .unset] [(.int 0), (.ref tn)])) rfl rfl (hb hby d10_5) _ ?_
    refine XS.istoreN X134.here hx rfl (hb hby d10_6) rfl (l' := #[.val (.ref a1), .val (.int 2)]) rfl ?_
    refine XS.aloadN X134.here hx rfl (hb hby d10_7) rfl rfl ?_
    exact k
  obtain ⟨T136, X136, e136, st136⟩ := getF X134 hx hZ hown (host := "") (Or.inl (w_17 hw)) Via.refl e134 F_a1_position (g := (mkF m 8 #[.val (.ref a1), .val (.int 2)] [(.ref a1)])) rfl rfl (hb hby d10_8)
  refine WP.st st136 ?_
  clear st136
  show WP p.tables e below _ T136 (mkF m 11 #[.val (.ref a1), .val (.int 2)] [(.ref tp)])
  refine WP.st (T' := T136) (f' := (mkF m 13 #[.val (.ref a1), .val (.int 2)] [(.int 0), (.int 2), (.ref tp)])) (fun t k => ?_) ?_
  · refine XS.iloadN X136.here hx rfl (hb hby d10_11) rfl ?_
    refine XS.iconst X136.here hx rfl (hb hby d10_12) ?_
    exact k
  obtain ⟨cl137, Ar137, q137, S137, N137, H137, G137⟩ := V_tp
  have hin137 : ¬ ((2 : Int32) < 0 ∨ cl137.slots.size ≤ ((2 : Int32)).toNatClampNeg) := inb_of S137 ⟨by decide, by decide⟩
  obtain ⟨T138, h138, X138, e138, W138, st138⟩ := stI X136 hx hZ e136 Ar137 (j := (2 : Int32)) hin137 (g := (mkF m 13 #[.val (.ref a1), .val (.int 2)] [(.int 0), (.int 2), (.ref tp)])) rfl rfl (hb hby d10_13)
  refine WP.st st138 ?_
  clear st138
  have Vn : Arv Z h138 tp kp .int (3 : Int32) [p0, p1, (.int 0)] (.int 0) := Arv.set Ar137 q137 S137 N137 H137 G137 rfl W138 2 rfl (Nat.le_of_ble_eq_true rfl)
  replace E_a1 := E_a1.wr W138
  replace F_a1_nodes := F_a1_nodes.other W138 (Or.inl ne_a1_tp)
  replace F_a1_seconds := F_a1_seconds.other W138 (Or.inl ne_a1_tp)
  replace F_a1_metres := F_a1_metres.other W138 (Or.inl ne_a1_tp)
  replace F_a1_position := F_a1_position.other W138 (Or.inl ne_a1_tp)
  replace F_a1_size := F_a1_size.other W138 (Or.inl ne_a1_tp)
  replace V_tn := V_tn.other W138 ne_tn_tp
  replace V_ts := V_ts.other W138 ne_ts_tp
  replace V_tm := V_tm.other W138 ne_tm_tp
  replace Z0 := Nat.le_trans Z0 (Keep.of_wr W138).1
  replace KP := KP.wr W138 (Or.inl (List.mem_of_getElem? (i := 4) rfl))
  replace V_tp := Vn
  replace NF := Fr.snoc X138 NF g_tp
  clear W138 hin137 q137 S137 N137 H137 G137 Ar137
  show WP p.tables e below _ T138 (mkF m 14 #[.val (.ref a1), .val (.int 2)] [])
  refine WP.st (T' := T138) (f' := (mkF m 16 #[.val (.ref a1), .val (.int 2)] [(.ref a1), (.ref a1)])) (fun t k => ?_) ?_
  · refine XS.aloadN X138.here hx rfl (hb hby d10_14) rfl rfl ?_
    refine XS.dup X138.here hx rfl (hb hby d10_15) rfl rfl ?_
    exact k
  obtain ⟨T139, X139, e139, st139⟩ := getF X138 hx hZ hown (host := "") (Or.inl (w_24 hw)) Via.refl e138 F_a1_size (g := (mkF m 16 #[.val (.ref a1), .val (.int 2)] [(.ref a1), (.ref a1)])) rfl rfl (hb hby d10_16)
  refine WP.st st139 ?_
  clear st139
  show WP p.tables e below _ T139 (mkF m 19 #[.val (.ref a1), .val (.int 2)] [(.int 3), (.ref a1)])
  refine WP.st (T' := T139) (f' := (mkF m 21 #[.val (.ref a1), .val (.int 2)] [(.int ((3 : Int32) - (1 : Int32))), (.ref a1)])) (fun t k => ?_) ?_
  · refine XS.iconst X139.here hx rfl (hb hby d10_19) ?_
    refine XS.isub X139.here hx rfl (hb hby d10_20) rfl ?_
    exact k
  rw [show ((3 : Int32) - (1 : Int32)) = (2 : Int32) from by decide]
  show WP p.tables e below _ T139 (mkF m 21 #[.val (.ref a1), .val (.int 2)] [(.int 2), (.ref a1)])
  obtain ⟨T140, h140, X140, e140, W140, st140⟩ := putF X139 hx hZ hown (host := "") (Or.inl (w_24 hw)) Via.refl e139 F_a1_size E_a1 (Or.inl (w_25 hw)) (w_1 hw) (ty := .int) (by decide) rfl rfl (g := (mkF m 21 #[.val (.ref a1), .val (.int 2)] [(.int 2), (.ref a1)])) rfl rfl (hb hby d10_21)
  refine WP.st st140 ?_
  clear st140
  replace E_a1 := E_a1.wr W140
  replace F_a1_nodes := F_a1_nodes.other W140 (Or.inr (sn_16 hw))
  replace F_a1_seconds := F_a1_seconds.other W140 (Or.inr (sn_17 hw))
  replace F_a1_metres := F_a1_metres.other W140 (Or.inr (sn_18 hw))
  replace F_a1_position := F_a1_position.other W140 (Or.inr (sn_19 hw))
  replace F_a1_size := F_a1_size.same W140
  replace V_tn := V_tn.other W140 (Ne.symm ne_a1_tn)
  replace V_ts := V_ts.other W140 (Ne.symm ne_a1_ts)
  replace V_tm := V_tm.other W140 (Ne.symm ne_a1_tm)
  replace V_tp := V_tp.other W140 (Ne.symm ne_a1_tp)
  replace Z0 := Nat.le_trans Z0 (Keep.of_wr W140).1
  replace KP := KP.wr W140 (Or.inl (List.mem_of_getElem? (i := 0) rfl))
  replace NF := Fr.snoc X140 NF g_a1
  clear W140
  show WP p.tables e below _ T140 (mkF m 24 #[.val (.ref a1), .val (.int 2)] [])
  refine WP.st (T' := T140) (f' := (mkF m 25 #[.val (.ref a1), .val (.int 2)] [(.ref a1)])) (fun t k => ?_) ?_
  · refine XS.aloadN X140.here hx rfl (hb hby d10_24) rfl rfl ?_
    exact k
  obtain ⟨T141, X141, e141, st141⟩ := getF X140 hx hZ hown (host := "") (Or.inl (w_24 hw)) Via.refl e140 F_a1_size (g := (mkF m 25 #[.val (.ref a1), .val (.int 2)] [(.ref a1)])) rfl rfl (hb hby d10_25)
  refine WP.st st141 ?_
  clear st141
  show WP p.tables e below _ T141 (mkF m 28 #[.val (.ref a1), .val (.int 2)] [(.int 2)])
  refine WP.st (T' := T141) (f' := (mkF m 33 #[.val (.ref a1), .val (.int 2)] [(.ref a1), (.ref a1)])) (fun t k => ?_) ?_
  · refine XS.ifNo X141.here hx rfl (hb hby d10_28) rfl ((if0 _ _).trans (tlt (by decide : (0 : Int32) < (2 : Int32))).2.2.2) ?_
    refine XS.aloadN X141.here hx rfl (hb hby d10_31) rfl rfl ?_
    refine XS.aloadN X141.here hx rfl (hb hby d10_32) rfl rfl ?_
    exact k
  obtain ⟨T142, X142, e142, st142⟩ := getF X141 hx hZ hown (host := "") (Or.inl (w_10 hw)) Via.refl e141 F_a1_nodes (g := (mkF m 33 #[.val (.ref a1), .val (.int 2)] [(.ref a1), (.ref a1)])) rfl rfl (hb hby d10_33)
  refine WP.st st142 ?_
  clear st142
  show WP p.tables e below _ T142 (mkF m 36 #[.val (.ref a1), .val (.int 2)] [(.ref tn), (.ref a1)])
  refine WP.st (T' := T142) (f' := (mkF m 37 #[.val (.ref a1), .val (.int 2)] [(.ref a1), (.ref tn), (.ref a1)])) (fun t k => ?_) ?_
  · refine XS.aloadN X142.here hx rfl (hb hby d10_36) rfl rfl ?_
    exact k
  obtain ⟨T143, X143, e143, st143⟩ := getF X142 hx hZ hown (host := "") (Or.inl (w_24 hw)) Via.refl e142 F_a1_size (g := (mkF m 37 #[.val (.ref a1), .val (.int 2)] [(.ref a1), (.ref tn), (.ref a1)])) rfl rfl (hb hby d10_37)
  refine WP.st st143 ?_
  clear st143
  show WP p.tables e below _ T143 (mkF m 40 #[.val (.ref a1), .val (.int 2)] [(.int 2), (.ref tn), (.ref a1)])
  obtain ⟨cl144, Ar144, hin144, hat144, -⟩ := V_tn.rd (j := (2 : Int32)) ⟨by decide, by decide⟩
  replace hat144 : cl144.slots[((2 : Int32)).toNatClampNeg]? = some (.int 1) := hat144
  refine WP.st (T' := T143) (f' := (mkF m 42 #[.val (.ref a1), .val (.int 2)] [(.ref a1), (.int 1), (.ref a1)])) (fun t k => ?_) ?_
  · refine X143.iaload hx (j := (2 : Int32)) (v := (.int 1)) (by rw [e143]; exact Ar144.1) (State.isArrayOf_alike hZ.alike Ar144.2.1) Ar144.2.2 hin144 hat144 (g := (mkF m 40 #[.val (.ref a1), .val (.int 2)] [(.int 2), (.ref tn), (.ref a1)])) rfl rfl (hb hby d10_40) _ ?_
    refine XS.aloadN X143.here hx rfl (hb hby d10_41) rfl rfl ?_
    exact k
  obtain ⟨T145, X145, e145, st145⟩ := getF X143 hx hZ hown (host := "") (Or.inl (w_13 hw)) Via.refl e143 F_a1_seconds (g := (mkF m 42 #[.val (.ref a1), .val (.int 2)] [(.ref a1), (.int 1), (.ref a1)])) rfl rfl (hb hby d10_42)
  refine WP.st st145 ?_
  clear st145
  show WP p.tables e below _ T145 (mkF m 45 #[.val (.ref a1), .val (.int 2)] [(.ref ts), (.int 1), (.ref a1)])
  refine WP.st (T' := T145) (f' := (mkF m 46 #[.val (.ref a1), .val (.int 2)] [(.ref a1), (.ref ts), (.int 1), (.ref a1)])) (fun t k => ?_) ?_
  · refine XS.aloadN X145.here hx rfl (hb hby d10_45) rfl rfl ?_
    exact k
  obtain ⟨T146, X146, e146, st146⟩ := getF X145 hx hZ hown (host := "") (Or.inl (w_24 hw)) Via.refl e145 F_a1_size (g := (mkF m 46 #[.val (.ref a1), .val (.int 2)] [(.ref a1), (.ref ts), (.int 1), (.ref a1)])) rfl rfl (hb hby d10_46)
  refine WP.st st146 ?_
  clear st146
  show WP p.tables e below _ T146 (mkF m 49 #[.val (.ref a1), .val (.int 2)] [(.int 2), (.ref ts), (.int 1), (.ref a1)])
  obtain ⟨cl147, Ar147, hin147, hat147, -⟩ := V_ts.rd (j := (2 : Int32)) ⟨by decide, by decide⟩
  replace hat147 : cl147.slots[((2 : Int32)).toNatClampNeg]? = some (.double z1) := hat147
  refine WP.st (T' := T146) (f' := (mkF m 51 #[.val (.ref a1), .val (.int 2)] [(.ref a1), (.double z1), (.int 1), (.ref a1)])) (fun t k => ?_) ?_
  · refine X146.daload hx (j := (2 : Int32)) (v := (.double z1)) (by rw [e146]; exact Ar147.1) (State.isArrayOf_alike hZ.alike Ar147.2.1) Ar147.2.2 hin147 hat147 (g := (mkF m 49 #[.val (.ref a1), .val (.int 2)] [(.int 2), (.ref ts), (.int 1), (.ref a1)])) rfl rfl (hb hby d10_49) _ ?_
    refine XS.aloadN X146.here hx rfl (hb hby d10_50) rfl rfl ?_
    exact k
  obtain ⟨T148, X148, e148, st148⟩ := getF X146 hx hZ hown (host := "") (Or.inl (w_15 hw)) Via.refl e146 F_a1_metres (g := (mkF m 51 #[.val (.ref a1), .val (.int 2)] [(.ref a1), (.double z1), (.int 1), (.ref a1)])) rfl rfl (hb hby d10_51)
  refine WP.st st148 ?_
  clear st148
  show WP p.tables e below _ T148 (mkF m 54 #[.val (.ref a1), .val (.int 2)] [(.ref tm), (.double z1), (.int 1), (.ref a1)])
  refine WP.st (T' := T148) (f' := (mkF m 55 #[.val (.ref a1), .val (.int 2)] [(.ref a1), (.ref tm), (.double z1), (.int 1), (.ref a1)])) (fun t k => ?_) ?_
  · refine XS.aloadN X148.here hx rfl (hb hby d10_54) rfl rfl ?_
    exact k
  obtain ⟨T149, X149, e149, st149⟩ := getF X148 hx hZ hown (host := "") (Or.inl (w_24 hw)) Via.refl e148 F_a1_size (g := (mkF m 55 #[.val (.ref a1), .val (.int 2)] [(.ref a1), (.ref tm), (.double z1), (.int 1), (.ref a1)])) rfl rfl (hb hby d10_55)
  refine WP.st st149 ?_
  clear st149
  show WP p.tables e below _ T149 (mkF m 58 #[.val (.ref a1), .val (.int 2)] [(.int 2), (.ref tm), (.double z1), (.int 1), (.ref a1)])
  obtain ⟨cl150, Ar150, hin150, hat150, -⟩ := V_tm.rd (j := (2 : Int32)) ⟨by decide, by decide⟩
  replace hat150 : cl150.slots[((2 : Int32)).toNatClampNeg]? = some (.double z2) := hat150
  refine WP.st (T' := T149) (f' := (mkF m 60 #[.val (.ref a1), .val (.int 2)] [(.int 0), (.double z2), (.double z1), (.int 1), (.ref a1)])) (fun t k => ?_) ?_
  · refine X149.daload hx (j := (2 : Int32)) (v := (.double z2)) (by rw [e149]; exact Ar150.1) (State.isArrayOf_alike hZ.alike Ar150.2.1) Ar150.2.2 hin150 hat150 (g := (mkF m 58 #[.val (.ref a1), .val (.int 2)] [(.int 2), (.ref tm), (.double z1), (.int 1), (.ref a1)])) rfl rfl (hb hby d10_58) _ ?_
    refine XS.iconst X149.here hx rfl (hb hby d10_59) ?_
    exact k
  obtain ⟨cq151, q151, q151'⟩ := E_a1.cell
  obtain ⟨_, _, ⟨T151, L151, k151, n151⟩, -, X151, ⟨Lc151, hQ151, l151, y151, z151⟩, st151⟩ := X149.privateBack hx (y := (⟨"com/example/tandemcab/tandemcab/NodeQueue", "down", "(IDDI)V"⟩ : MethodName)) hown (mvT hZ (w_59 hw)) (mvT hZ (w_60 hw)) (ownSel (y := (⟨"com/example/tandemcab/tandemcab/NodeQueue", "down", "(IDDI)V"⟩ : MethodName)) (mvT hZ (w_22 hw)) rfl (Cond.privateMethod_at (mvP hZ (w_61 hw) (args := #[]))) (mvT hZ (w_60 hw)) (by decide)) (Cond.privateMethod_at (mvP hZ (w_61 hw) (args := #[]))) (mvT hZ (w_62 hw)) (by decide) (backOf (W := 0) (rm11t14 l Z a0 hw [] a1 z1 z2 tn ts tm tp kn ks km kp (.int 2) (.int 1) s0 y1 (.double z1) m0 y2 (.double z2) p0 p1 (.int 0) h140 n0 Z0 E_a1 F_a1_nodes F_a1_seconds F_a1_metres F_a1_position F_a1_size V_tn V_ts V_tm V_tp g_a1 g_tn g_ts g_tm g_tp ne_a1_tn ne_a1_ts ne_a1_tm ne_a1_tp ne_tn_ts ne_tn_tm ne_tn_tp ne_ts_tm ne_ts_tp ne_tm_tp hbef) hZ (w_62 hw) (w_2 hw) (by decide) (by decide)) (g := (mkF m 60 #[.val (.ref a1), .val (.int 2)] [(.int 0), (.double z2), (.double z1), (.int 1), (.ref a1)])) rfl (by rw [hml]; rfl) (Steps.refl _) (a := a1) (by rw [e149]; exact q151) q151' (argsL := [(.int 1), (.double z1), (.double z2), (.int 0)]) (rest := []) (lenOf pd_2 rfl) rfl (by show 2 * 0 + _ ≤ _; exact Nat.le_of_eq rfl) (hb hby d10_60) (fun _ _ => ⟨rfl, e149, (by decide : 0 + 0 ≤ _), (by decide : 0 + 0 ≤ _)⟩)
  dsimp only [Pt.U, Pt.locs, Pt.cells, Pt.slots] at X151 l151 y151 z151 st151 hQ151
  subst l151 y151 z151
  obtain ⟨rfl, Nq151, Kq151, nF151_a1_nodes, nF151_a1_seconds, nF151_a1_metres, nF151_a1_position, nF151_a1_size, nA151_tn, nA151_ts, nA151_tm, nA151_tp⟩ := hQ151
  replace NF := Fr.app NF Nq151
  clear Nq151
  refine WP.tr st151 ?_
  clear st151
  obtain ⟨h151, e151⟩ : ∃ h, T151.heap = h := ⟨_, rfl⟩
  rw [e151] at Kq151 nF151_a1_nodes nF151_a1_seconds nF151_a1_metres nF151_a1_position nF151_a1_size nA151_tn nA151_ts nA151_tm nA151_tp
  replace E_a1 := E_a1.keep Kq151
  clear F_a1_nodes
  clear F_a1_seconds
  clear F_a1_metres
  clear F_a1_position
  clear F_a1_size
  clear V_tn
  clear V_ts
  clear V_tm
  clear V_tp
  replace Z0 := Nat.le_trans Z0 Kq151.1
  replace KP := KP.trans Kq151 (allS (Or.inl (List.mem_of_getElem? (i := 0) rfl)) (allS (Or.inl (List.mem_of_getElem? (i := 1) rfl)) (allS (Or.inl (List.mem_of_getElem? (i := 2) rfl)) (allS (Or.inl (List.mem_of_getElem? (i := 3) rfl)) (allS (Or.inl (List.mem_of_getElem? (i := 4) rfl)) all0)))))
  clear Kq151
  have F_a1_nodes := nF151_a1_nodes
  clear nF151_a1_nodes
  have F_a1_seconds := nF151_a1_seconds
  clear nF151_a1_seconds
  have F_a1_metres := nF151_a1_metres
  clear nF151_a1_metres
  have F_a1_position := nF151_a1_position
  clear nF151_a1_position
  have F_a1_size := nF151_a1_size
  clear nF151_a1_size
  have V_tn := nA151_tn
  clear nA151_tn
  have V_ts := nA151_ts
  clear nA151_ts
  have V_tm := nA151_tm
  clear nA151_tm
  have V_tp := nA151_tp
  clear nA151_tp
  show WP p.tables e below _ T151 (mkF m 63 #[.val (.ref a1), .val (.int 2)] [])
  refine WP.st (T' := T151) (f' := (mkF m 64 #[.val (.ref a1), .val (.int 2)] [(.int 2)])) (fun t k => ?_) ?_
  · refine XS.iloadN X151.here hx rfl (hb hby d10_63) rfl ?_
    exact k
  subst hG
  obtain ⟨fs, hr, hrun, hended, hW, hsame⟩ := X151.leave (v := some (.int 2)) (fun h => by rw [Bd.returns] at h; cases h)
  refine WP.fin ⟨_, _, ?_, hrun, hended, _, _, rfl, ?_, ⟨_, rfl⟩, hW, hsame.mono (by decide) (by decide)⟩
  · exact retI X151 hx Bd.returns (hb hby d10_64) hr
  · show Q10t13 Z a1 tn ts tm tp kn ks km kp s0 y1 z1 m0 y2 z2 p0 p1 p2 h0 n0 _ T151.heap _
    rw [e151]
    exact ⟨rfl, NF, KP, F_a1_nodes, F_a1_seconds, F_a1_metres, F_a1_position, F_a1_size, V_tn, V_ts, V_tm, V_tp⟩
theorem w_54 {a0 : Array Value} {Z : State} (hw : ∀ d ∈ tables_1, d.before a0 Z = true) : (Jvm.Cond.methodLink "com/example/tandemcab/tandemcab/NodeQueueClearPinLaw" (29 : Nat) ({ cls := "com/example/tandemcab/tandemcab/NodeQueue", name := "poll", desc := "()I" } : Jvm.MethodName)).before a0 Z = true := hw _ (List.mem_of_getElem? (i := 54) rfl)
theorem w_58 {a0 : Array Value} {Z : State} (hw : ∀ d ∈ tables_1, d.before a0 Z = true) : (Jvm.Cond.code ({ cls := "com/example/tandemcab/tandemcab/NodeQueue", name := "poll", desc := "()I" } : Jvm.MethodName) prog_49_method_6_code (2 : Nat) (Option.some Jvm.ClassFile.FieldType.int)).before a0 Z = true := hw _ (List.mem_of_getElem? (i := 58) rfl)
theorem pd_6 : parseMethodDescriptor "()I" = some ⟨[], some .int⟩ := by decide +kernel
theorem w_57 {a0 : Array Value} {Z : State} (hw : ∀ d ∈ tables_1, d.before a0 Z = true) : (Jvm.Cond.selects "com/example/tandemcab/tandemcab/NodeQueue" ({ cls := "com/example/tandemcab/tandemcab/NodeQueue", name := "poll", desc := "()I" } : Jvm.MethodName) ({ cls := "com/example/tandemcab/tandemcab/NodeQueue", name := "poll", desc := "()I" } : Jvm.MethodName)).before a0 Z = true := hw _ (List.mem_of_getElem? (i := 57) rfl)
theorem w_55 {a0 : Array Value} {Z : State} (hw : ∀ d ∈ tables_1, d.before a0 Z = true) : (Jvm.Cond.declares ({ cls := "com/example/tandemcab/tandemcab/NodeQueue", name := "poll", desc := "()I" } : Jvm.MethodName)).before a0 Z = true := hw _ (List.mem_of_getElem? (i := 55) rfl)
theorem w_56 {a0 : Array Value} {Z : State} (hw : ∀ d ∈ tables_1, d.before a0 Z = true) : (Jvm.Cond.instanceMethod ({ cls := "com/example/tandemcab/tandemcab/NodeQueue", name := "poll", desc := "()I" } : Jvm.MethodName)).before a0 Z = true := hw _ (List.mem_of_getElem? (i := 56) rfl)
theorem ef_11t16 (m : MethodId) (z0 : Addr) (z2 : UInt64) (z3 : UInt64) : entryFrame m #[(.ref z0), (.int 0), (.double z2), (.double z3), (.int 0)] 10 = mkF m 0 #[.val (.ref z0), .val (.int 0), .val (.double z2), .second, .val (.double z3), .second, .val (.int 0), .unset, .unset, .unset] [] := by
  all_goals first | (simp [entryFrame, mkF, argsToLocals, Value.category]; done) | rfl
def Q11t16 (Z : State) (a1 : Addr) (x1 : UInt64) (x2 : UInt64) (tn : Addr) (ts : Addr) (tm : Addr) (tp : Addr) (kn : ClassId) (ks : ClassId) (km : ClassId) (kp : ClassId) (nd0 : Value) (nd1 : Value) (nd2 : Value) (s0 : Value) (s1 : Value) (s2 : Value) (m0 : Value) (m1 : Value) (m2 : Value) (p0 : Value) (p1 : Value) (p2 : Value) (h0 : Heap) (n0 : Nat) (v : Option Value) (h : Heap) (L : List Loc) : Prop := v = none ∧ Fr n0 L ∧ Keep h0 h [a1, tn, ts, tm, tp] ∧ Fld Z h a1 "com/example/tandemcab/tandemcab/NodeQueue" "nodes" "[I" (.ref tn) ∧ Fld Z h a1 "com/example/tandemcab/tandemcab/NodeQueue" "seconds" "[D" (.ref ts) ∧ Fld Z h a1 "com/example/tandemcab/tandemcab/NodeQueue" "metres" "[D" (.ref tm) ∧ Fld Z h a1 "com/example/tandemcab/tandemcab/NodeQueue" "position" "[I" (.ref tp) ∧ Fld Z h a1 "com/example/tandemcab/tandemcab/NodeQueue" "size" "I" (.int 1) ∧ (Arv Z h tn kn .int (3 : Int32) [(.int 0), nd1, nd2] (.int 0)) ∧ (Arv Z h ts ks .double (3 : Int32) [(.double x1), s1, s2] (.double 0)) ∧ (Arv Z h tm km .double (3 : Int32) [(.double x2), m1, m2] (.double 0)) ∧ (Arv Z h tp kp .int (3 : Int32) [(.int 1), p1, p2] (.int 0))
set_option maxRecDepth 65536 in
set_option maxHeartbeats 40000000 in
theorem rm11t16 (l : Launch) (Z : State) (a0 : Array Value) (hw : ∀ d ∈ tables_1, d.before a0 Z = true) (wsC : List Jvm.Cond) (a1 : Addr) (x1 : UInt64) (x2 : UInt64) (tn : Addr) (ts : Addr) (tm : Addr) (tp : Addr) (kn : ClassId) (ks : ClassId) (km : ClassId) (kp : ClassId) (nd0 : Value) (nd1 : Value) (nd2 : Value) (s0 : Value) (s1 : Value) (s2 : Value) (m0 : Value) (m1 : Value) (m2 : Value) (p0 : Value) (p1 : Value) (p2 : Value) (h0 : Heap) (n0 : Nat) (Z0 : n0 ≤ h0.size) (E_a1 : Exa Z h0 a1 "com/example/tandemcab/tandemcab/NodeQueue") (F_a1_nodes : Fld Z h0 a1 "com/example/tandemcab/tandemcab/NodeQueue" "nodes" "[I" (.ref tn)) (F_a1_seconds : Fld Z h0 a1 "com/example/tandemcab/tandemcab/NodeQueue" "seconds" "[D" (.ref ts)) (F_a1_metres : Fld Z h0 a1 "com/example/tandemcab/tandemcab/NodeQueue" "metres" "[D" (.ref tm)) (F_a1_position : Fld Z h0 a1 "com/example/tandemcab/tandemcab/NodeQueue" "position" "[I" (.ref tp)) (F_a1_size : Fld Z h0 a1 "com/example/tandemcab/tandemcab/NodeQueue" "size" "I" (.int 1)) (V_tn : Arv Z h0 tn kn .int (3 : Int32) [nd0, nd1, nd2] (.int 0)) (V_ts : Arv Z h0 ts ks .double (3 : Int32) [s0, s1, s2] (.double 0)) (V_tm : Arv Z h0 tm km .double (3 : Int32) [m0, m1, m2] (.double 0)) (V_tp : Arv Z h0 tp kp .int (3 : Int32) [p0, p1, p2] (.int 0)) (g_a1 : n0 ≤ a1) (g_tn : n0 ≤ tn) (g_ts : n0 ≤ ts) (g_tm : n0 ≤ tm) (g_tp : n0 ≤ tp) (ne_a1_tn : a1 ≠ tn) (ne_a1_ts : a1 ≠ ts) (ne_a1_tm : a1 ≠ tm) (ne_a1_tp : a1 ≠ tp) (ne_tn_ts : tn ≠ ts) (ne_tn_tm : tn ≠ tm) (ne_tn_tp : tn ≠ tp) (ne_ts_tm : ts ≠ tm) (ne_ts_tp : ts ≠ tp) (ne_tm_tp : tm ≠ tp) :
    MetFree l (⟨"com/example/tandemcab/tandemcab/NodeQueue", "down", "(IDDI)V"⟩ : MethodName) (head1 (Jvm.Cond.code (⟨"com/example/tandemcab/tandemcab/NodeQueue", "down", "(IDDI)V"⟩ : MethodName) prog_49_method_8_code 10 none :: wsC) ({ frames := 1, cells := 0, slots := 0, locals := 18 } : Room)) (fun a U => a = #[(.ref a1), (.int 0), (.double x1), (.double x2), (.int 0)] ∧ Z.Warmed39 U.vm ∧ U.heap = h0) (fun _ _ _ _ _ => True) (fun _ U o U' => ∃ v L, o = .returned v ∧ Q11t16 Z a1 x1 x2 tn ts tm tp kn ks km kp nd0 nd1 nd2 s0 s1 s2 m0 m1 m2 p0 p1 p2 h0 n0 v U'.heap L ∧ FrameEnd U o U' L ({ frames := 1, cells := 0, slots := 0, locals := 18 } : Room).cells ({ frames := 1, cells := 0, slots := 0, locals := 18 } : Room).slots) := by
  refine MetFree.of_bodySF (plainFor_of_name pn_0) hisR ?_
  intro p e s m args below meth c s₁ Bd hml0 hP hK
  obtain ⟨rfl, hZ, hh⟩ := hP
  have hx := Bd.exec
  have hby := Bd.bytes
  have hml : c.maxLocals = 10 := hml0
  have hown : s.vm.findClass "com/example/tandemcab/tandemcab/NodeQueue" = some m.cls := findClass_of_methodNamed Bd.named
  have hnm := (name_of_methodNamed Bd.named Bd.method).1
  have X0 : Stand p l e ({ frames := 1, cells := 0, slots := 0, locals := 18 } : Room) s m #[(.ref a1), (.int 0), (.double x1), (.double x2), (.int 0)] below meth c s₁ [] 0 0 := Stand.of_body Bd
  have e0 : s₁.heap = h0 := by rw [← hh, Bd.state]; rfl
  have NF := Fr.nil n0
  have KP : Keep h0 h0 [a1, tn, ts, tm, tp] := Keep.refl h0 _
  refine WP.go ?_
  refine WP.cast (ef_11t16 m a1 x1 x2) ?_
  refine WP.name ?_
  intro G hG
  refine WP.st (T' := s₁) (f' := (mkF m 1 #[.val (.ref a1), .val (.int 0), .val (.double x1), .second, .val (.double x2), .second, .val (.int 0), .unset, .unset, .unset] [(.ref a1)])) (fun t k => ?_) ?_
  · refine XS.aloadN X0.here hx rfl (hb hby d11_0) rfl rfl ?_
    exact k
  obtain ⟨T153, X153, e153, st153⟩ := getF X0 hx hZ hown (host := "") (Or.inl (w_24 hw)) Via.refl e0 F_a1_size (g := (mkF m 1 #[.val (.ref a1), .val (.int 0), .val (.double x1), .second, .val (.double x2), .second, .val (.int 0), .unset, .unset, .unset] [(.ref a1)])) rfl rfl (hb hby d11_1)
  refine WP.st st153 ?_
  clear st153
  show WP p.tables e below _ T153 (mkF m 4 #[.val (.ref a1), .val (.int 0), .val (.double x1), .second, .val (.double x2), .second, .val (.int 0), .unset, .unset, .unset] [(.int 1)])
  refine WP.st (T' := T153) (f' := (mkF m 6 #[.val (.ref a1), .val (.int 0), .val (.double x1), .second, .val (.double x2), .second, .val (.int 0), .unset, .unset, .unset] [(.int (((1 : Int32).toUInt32 >>> ((1 : Int32) &&& 31).toUInt32).toInt32))])) (fun t k => ?_) ?_
  · refine XS.iconst X153.here hx rfl (hb hby d11_4) ?_
    refine XS.iushr X153.here hx rfl (hb hby d11_5) rfl ?_
    exact k
  rw [show (((1 : Int32).toUInt32 >>> ((1 : Int32) &&& 31).toUInt32).toInt32) = (0 : Int32) from by decide]
  show WP p.tables e below _ T153 (mkF m 6 #[.val (.ref a1), .val (.int 0), .val (.double x1), .second, .val (.double x2), .second, .val (.int 0), .unset, .unset, .unset] [(.int 0)])
  refine WP.st (T' := T153) (f' := (mkF m 124 #[.val (.ref a1), .val (.int 0), .val (.double x1), .second, .val (.double x2), .second, .val (.int 0), .val (.int 0), .unset, .unset] [(.int 0), (.double x2), (.double x1), (.int 0), (.ref a1)])) (fun t k => ?_) ?_
  · refine XS.istore X153.here hx rfl (hb hby d11_6) rfl (l' := #[.val (.ref a1), .val (.int 0), .val (.double x1), .second, .val (.double x2), .second, .val (.int 0), .val (.int 0), .unset, .unset]) rfl ?_
    refine XS.iload X153.here hx rfl (hb hby d11_8) rfl ?_
    refine XS.iload X153.here hx rfl (hb hby d11_10) rfl ?_
    refine XS.icmpYes X153.here hx rfl (pc0 := 12) (pc' := 117) rfl (hb hby d11_12) rfl (flt (by decide : ¬ ((0 : Int32) < (0 : Int32)))).2.1 (by decide) (by decide) ?_
    refine XS.aloadN X153.here hx rfl (hb hby d11_117) rfl rfl ?_
    refine XS.iloadN X153.here hx rfl (hb hby d11_118) rfl ?_
    refine XS.dloadN X153.here hx rfl (hb hby d11_119) rfl ?_
    refine XS.dload X153.here hx rfl (hb hby d11_120) rfl ?_
    show Steps p.tables e below (T153.setTop (mkF m 122 #[.val (.ref a1), .val (.int 0), .val (.double x1), .second, .val (.double x2), .second, .val (.int 0), .val (.int 0), .unset, .unset] [(.double x2), (.double x1), (.int 0), (.ref a1)])) t
    refine XS.iload X153.here hx rfl (hb hby d11_122) rfl ?_
    exact k
  obtain ⟨cq154, q154, q154'⟩ := E_a1.cell
  obtain ⟨_, _, ⟨T154, L154, k154, n154⟩, -, X154, ⟨Lc154, hQ154, l154, y154, z154⟩, st154⟩ := X153.privateBack hx (y := (⟨"com/example/tandemcab/tandemcab/NodeQueue", "place", "(IDDI)V"⟩ : MethodName)) hown (mvT hZ (w_41 hw)) (mvT hZ (w_42 hw)) (ownSel (y := (⟨"com/example/tandemcab/tandemcab/NodeQueue", "place", "(IDDI)V"⟩ : MethodName)) (mvT hZ (w_22 hw)) rfl (Cond.privateMethod_at (mvP hZ (w_43 hw) (args := #[]))) (mvT hZ (w_42 hw)) (by decide)) (Cond.privateMethod_at (mvP hZ (w_43 hw) (args := #[]))) (mvT hZ (w_44 hw)) (by decide) (backOf (W := 0) (rm7t2 l Z a0 hw [] a1 x1 x2 tn ts tm tp kn ks km kp nd0 nd1 nd2 s0 s1 s2 m0 m1 m2 p0 p1 p2 (1 : Int32) h0 n0 Z0 E_a1 F_a1_nodes F_a1_seconds F_a1_metres F_a1_position F_a1_size V_tn V_ts V_tm V_tp g_a1 g_tn g_ts g_tm g_tp ne_a1_tn ne_a1_ts ne_a1_tm ne_a1_tp ne_tn_ts ne_tn_tm ne_tn_tp ne_ts_tm ne_ts_tp ne_tm_tp) hZ (w_44 hw) (w_2 hw) (by decide) (by decide)) (g := (mkF m 124 #[.val (.ref a1), .val (.int 0), .val (.double x1), .second, .val (.double x2), .second, .val (.int 0), .val (.int 0), .unset, .unset] [(.int 0), (.double x2), (.double x1), (.int 0), (.ref a1)])) rfl (by rw [hml]; rfl) (Steps.refl _) (a := a1) (by rw [e153]; exact q154) q154' (argsL := [(.int 0), (.double x1), (.double x2), (.int 0)]) (rest := []) (lenOf pd_2 rfl) rfl (by show 2 * 0 + _ ≤ _; exact Nat.le_of_eq rfl) (hb hby d11_124) (fun _ _ => ⟨rfl, e153, (by decide : 0 + 0 ≤ _), (by decide : 0 + 0 ≤ _)⟩)
  dsimp only [Pt.U, Pt.locs, Pt.cells, Pt.slots] at X154 l154 y154 z154 st154 hQ154
  subst l154 y154 z154
  obtain ⟨rfl, Nq154, Kq154, nF154_a1_nodes, nF154_a1_seconds, nF154_a1_metres, nF154_a1_position, nF154_a1_size, nA154_tn, nA154_ts, nA154_tm, nA154_tp⟩ := hQ154
  replace NF := Fr.app NF Nq154
  clear Nq154
  refine WP.tr st154 ?_
  clear st154
  obtain ⟨h154, e154⟩ : ∃ h, T154.heap = h := ⟨_, rfl⟩
  rw [e154] at Kq154 nF154_a1_nodes nF154_a1_seconds nF154_a1_metres nF154_a1_position nF154_a1_size nA154_tn nA154_ts nA154_tm nA154_tp
  replace E_a1 := E_a1.keep Kq154
  clear F_a1_nodes
  clear F_a1_seconds
  clear F_a1_metres
  clear F_a1_position
  clear F_a1_size
  clear V_tn
  clear V_ts
  clear V_tm
  clear V_tp
  replace Z0 := Nat.le_trans Z0 Kq154.1
  replace KP := KP.trans Kq154 (allS (Or.inl (List.mem_of_getElem? (i := 0) rfl)) (allS (Or.inl (List.mem_of_getElem? (i := 1) rfl)) (allS (Or.inl (List.mem_of_getElem? (i := 2) rfl)) (allS (Or.inl (List.mem_of_getElem? (i := 3) rfl)) (allS (Or.inl (List.mem_of_getElem? (i := 4) rfl)) all0)))))
  clear Kq154
  have F_a1_nodes := nF154_a1_nodes
  clear nF154_a1_nodes
  have F_a1_seconds := nF154_a1_seconds
  clear nF154_a1_seconds
  have F_a1_metres := nF154_a1_metres
  clear nF154_a1_metres
  have F_a1_position := nF154_a1_position
  clear nF154_a1_position
  have F_a1_size := nF154_a1_size
  clear nF154_a1_size
  have V_tn := nA154_tn
  clear nA154_tn
  have V_ts := nA154_ts
  clear nA154_ts
  have V_tm := nA154_tm
  clear nA154_tm
  have V_tp := nA154_tp
  clear nA154_tp
  show WP p.tables e below _ T154 (mkF m 127 #[.val (.ref a1), .val (.int 0), .val (.double x1), .second, .val (.double x2), .second, .val (.int 0), .val (.int 0), .unset, .unset] [])
  subst hG
  obtain ⟨fs, hr, hrun, hended, hW, hsame⟩ := X154.leave (v := none) (fun _ => rfl)
  refine WP.fin ⟨_, _, ?_, hrun, hended, _, _, rfl, ?_, ⟨_, rfl⟩, hW, hsame.mono (by decide) (by decide)⟩
  · exact X154.returnOut hx Bd.returns (hb hby d11_127) hr
  · show Q11t16 Z a1 x1 x2 tn ts tm tp kn ks km kp nd0 nd1 nd2 s0 s1 s2 m0 m1 m2 p0 p1 p2 h0 n0 _ T154.heap _
    rw [e154]
    exact ⟨rfl, NF, KP, F_a1_nodes, F_a1_seconds, F_a1_metres, F_a1_position, F_a1_size, V_tn, V_ts, V_tm, V_tp⟩
theorem ef_10t15 (m : MethodId) (z0 : Addr) : entryFrame m #[(.ref z0)] 2 = mkF m 0 #[.val (.ref z0), .unset] [] := by
  all_goals first | (simp [entryFrame, mkF, argsToLocals, Value.category]; done) | rfl
def Q10t15 (Z : State) (a1 : Addr) (tn : Addr) (ts : Addr) (tm : Addr) (tp : Addr) (kn : ClassId) (ks : ClassId) (km : ClassId) (kp : ClassId) (nd2 : Value) (s0 : Value) (z1 : UInt64) (s2 : Value) (m0 : Value) (z2 : UInt64) (m2 : Value) (p0 : Value) (p1 : Value) (p2 : Value) (h0 : Heap) (n0 : Nat) (v : Option Value) (h : Heap) (L : List Loc) : Prop := v = some (.int 1) ∧ Fr n0 L ∧ Keep h0 h [a1, tn, ts, tm, tp] ∧ Fld Z h a1 "com/example/tandemcab/tandemcab/NodeQueue" "nodes" "[I" (.ref tn) ∧ Fld Z h a1 "com/example/tandemcab/tandemcab/NodeQueue" "seconds" "[D" (.ref ts) ∧ Fld Z h a1 "com/example/tandemcab/tandemcab/NodeQueue" "metres" "[D" (.ref tm) ∧ Fld Z h a1 "com/example/tandemcab/tandemcab/NodeQueue" "position" "[I" (.ref tp) ∧ Fld Z h a1 "com/example/tandemcab/tandemcab/NodeQueue" "size" "I" (.int 1) ∧ (Arv Z h tn kn .int (3 : Int32) [(.int 0), (.int 0), nd2] (.int 0)) ∧ (Arv Z h ts ks .double (3 : Int32) [(.double z1), (.double z1), s2] (.double 0)) ∧ (Arv Z h tm km .double (3 : Int32) [(.double z2), (.double z2), m2] (.double 0)) ∧ (Arv Z h tp kp .int (3 : Int32) [(.int 1), (.int 0), p2] (.int 0))
set_option maxRecDepth 65536 in
set_option maxHeartbeats 40000000 in
theorem rm10t15 (l : Launch) (Z : State) (a0 : Array Value) (hw : ∀ d ∈ tables_1, d.before a0 Z = true) (wsC : List Jvm.Cond) (a1 : Addr) (tn : Addr) (ts : Addr) (tm : Addr) (tp : Addr) (kn : ClassId) (ks : ClassId) (km : ClassId) (kp : ClassId) (nd2 : Value) (s0 : Value) (z1 : UInt64) (s2 : Value) (m0 : Value) (z2 : UInt64) (m2 : Value) (p0 : Value) (p1 : Value) (p2 : Value) (h0 : Heap) (n0 : Nat) (Z0 : n0 ≤ h0.size) (E_a1 : Exa Z h0 a1 "com/example/tandemcab/tandemcab/NodeQueue") (F_a1_nodes : Fld Z h0 a1 "com/example/tandemcab/tandemcab/NodeQueue" "nodes" "[I" (.ref tn)) (F_a1_seconds : Fld Z h0 a1 "com/example/tandemcab/tandemcab/NodeQueue" "seconds" "[D" (.ref ts)) (F_a1_metres : Fld Z h0 a1 "com/example/tandemcab/tandemcab/NodeQueue" "metres" "[D" (.ref tm)) (F_a1_position : Fld Z h0 a1 "com/example/tandemcab/tandemcab/NodeQueue" "position" "[I" (.ref tp)) (F_a1_size : Fld Z h0 a1 "com/example/tandemcab/tandemcab/NodeQueue" "size" "I" (.int 2)) (V_tn : Arv Z h0 tn kn .int (3 : Int32) [(.int 1), (.int 0), nd2] (.int 0)) (V_ts : Arv Z h0 ts ks .double (3 : Int32) [s0, (.double z1), s2] (.double 0)) (V_tm : Arv Z h0 tm km .double (3 : Int32) [m0, (.double z2), m2] (.double 0)) (V_tp : Arv Z h0 tp kp .int (3 : Int32) [p0, p1, p2] (.int 0)) (g_a1 : n0 ≤ a1) (g_tn : n0 ≤ tn) (g_ts : n0 ≤ ts) (g_tm : n0 ≤ tm) (g_tp : n0 ≤ tp) (ne_a1_tn : a1 ≠ tn) (ne_a1_ts : a1 ≠ ts) (ne_a1_tm : a1 ≠ tm) (ne_a1_tp : a1 ≠ tp) (ne_tn_ts : tn ≠ ts) (ne_tn_tm : tn ≠ tm) (ne_tn_tp : tn ≠ tp) (ne_ts_tm : ts ≠ tm) (ne_ts_tp : ts ≠ tp) (ne_tm_tp : tm ≠ tp) :
    MetFree l (⟨"com/example/tandemcab/tandemcab/NodeQueue", "poll", "()I"⟩ : MethodName) (head1 (Jvm.Cond.code (⟨"com/example/tandemcab/tandemcab/NodeQueue", "poll", "()I"⟩ : MethodName) prog_49_method_6_code 2 (some .int) :: wsC) ({ frames := 2, cells := 0, slots := 0, locals := 39 } : Room)) (fun a U => a = #[(.ref a1)] ∧ Z.Warmed39 U.vm ∧ U.heap = h0) (fun _ _ _ _ _ => True) (fun _ U o U' => ∃ v L, o = .returned v ∧ Q10t15 Z a1 tn ts tm tp kn ks km kp nd2 s0 z1 s2 m0 z2 m2 p0 p1 p2 h0 n0 v U'.heap L ∧ FrameEnd U o U' L ({ frames := 2, cells := 0, slots := 0, locals := 39 } : Room).cells ({ frames := 2, cells := 0, slots := 0, locals := 39 } : Room).slots) := by
  refine MetFree.of_bodySF (plainFor_of_name pn_0) hisR ?_
  intro p e s m args below meth c s₁ Bd hml0 hP hK
  obtain ⟨rfl, hZ, hh⟩ := hP
  have hx := Bd.exec
  have hby := Bd.bytes
  have hml : c.maxLocals = 2 := hml0
  have hown : s.vm.findClass "com/example/tandemcab/tandemcab/NodeQueue" = some m.cls := findClass_of_methodNamed Bd.named
  have hnm := (name_of_methodNamed Bd.named Bd.method).1
  have X0 : Stand p l e ({ frames := 2, cells := 0, slots := 0, locals := 39 } : Room) s m #[(.ref a1)] below meth c s₁ [] 0 0 := Stand.of_body Bd
  have e0 : s₁.heap = h0 := by rw [← hh, Bd.state]; rfl
  have NF := Fr.nil n0
  have KP : Keep h0 h0 [a1, tn, ts, tm, tp] := Keep.refl h0 _
  refine WP.go ?_
  refine WP.cast (ef_10t15 m a1) ?_
  refine WP.name ?_
  intro G hG
  refine WP.st (T' := s₁) (f' := (mkF m 1 #[.val (.ref a1), .unset] [(.ref a1)])) (fun t k => ?_) ?_
  · refine XS.aloadN X0.here hx rfl (hb hby d10_0) rfl rfl ?_
    exact k
  obtain ⟨T155, X155, e155, st155⟩ := getF X0 hx hZ hown (host := "") (Or.inl (w_10 hw)) Via.refl e0 F_a1_nodes (g := (mkF m 1 #[.val (.ref a1), .unset] [(.ref a1)])) rfl rfl (hb hby d10_1)
  refine WP.st st155 ?_
  clear st155
  show WP p.tables e below _ T155 (mkF m 4 #[.val (.ref a1), .unset] [(.ref tn)])
  refine WP.st (T' := T155) (f' := (mkF m 5 #[.val (.ref a1), .unset] [(.int 0), (.ref tn)])) (fun t k => ?_) ?_
  · refine XS.iconst X155.here hx rfl (hb hby d10_4) ?_
    exact k
  obtain ⟨cl156, Ar156, hin156, hat156, -⟩ := V_tn.rd (j := (0 : Int32)) ⟨by decide, by decide⟩
  replace hat156 : cl156.slots[((0 : Int32)).toNatClampNeg]? = some (.int 1) := hat156
  refine WP.st (T' := T155) (f' := (mkF m 8 #[.val (.ref a1), .val (.int 1)] [(.ref a1)])) (fun t k => ?_) ?_
  · refine X155.iaload hx (j := (0 : Int32)) (v := (.int 1)) (by rw [e155]; exact Ar156.1) (State.isArrayOf_alike hZ.alike Ar156.2.1) Ar156.2.2 hin156 hat156 (g := (mkF m 5 #[.val (.ref a1), .unset] [(.int 0), (.ref tn)])) rfl rfl (hb hby d10_5) _ ?_
    refine XS.istoreN X155.here hx rfl (hb hby d10_6) rfl (l' := #[.val (.ref a1), .val (.int 1)]) rfl ?_
    refine XS.aloadN X155.here hx rfl (hb hby d10_7) rfl rfl ?_
    exact k
  obtain ⟨T157, X157, e157, st157⟩ := getF X155 hx hZ hown (host := "") (Or.inl (w_17 hw)) Via.refl e155 F_a1_position (g := (mkF m 8 #[.val (.ref a1), .val (.int 1)] [(.ref a1)])) rfl rfl (hb hby d10_8)
  refine WP.st st157 ?_
  clear st157
  show WP p.tables e below _ T157 (mkF m 11 #[.val (.ref a1), .val (.int 1)] [(.ref tp)])
  refine WP.st (T' := T157) (f' := (mkF m 13 #[.val (.ref a1), .val (.int 1)] [(.int 0), (.int 1), (.ref tp)])) (fun t k => ?_) ?_
  · refine XS.iloadN X157.here hx rfl (hb hby d10_11) rfl ?_
    refine XS.iconst X157.here hx rfl (hb hby d10_12) ?_
    exact k
  obtain ⟨cl158, Ar158, q158, S158, N158, H158, G158⟩ := V_tp
  have hin158 : ¬ ((1 : Int32) < 0 ∨ cl158.slots.size ≤ ((1 : Int32)).toNatClampNeg) := inb_of S158 ⟨by decide, by decide⟩
  obtain ⟨T159, h159, X159, e159, W159, st159⟩ := stI X157 hx hZ e157 Ar158 (j := (1 : Int32)) hin158 (g := (mkF m 13 #[.val (.ref a1), .val (.int 1)] [(.int 0), (.int 1), (.ref tp)])) rfl rfl (hb hby d10_13)
  refine WP.st st159 ?_
  clear st159
  have Vn : Arv Z h159 tp kp .int (3 : Int32) [p0, (.int 0), p2] (.int 0) := Arv.set Ar158 q158 S158 N158 H158 G158 rfl W159 1 rfl (Nat.le_of_ble_eq_true rfl)
  replace E_a1 := E_a1.wr W159
  replace F_a1_nodes := F_a1_nodes.other W159 (Or.inl ne_a1_tp)
  replace F_a1_seconds := F_a1_seconds.other W159 (Or.inl ne_a1_tp)
  replace F_a1_metres := F_a1_metres.other W159 (Or.inl ne_a1_tp)
  replace F_a1_position := F_a1_position.other W159 (Or.inl ne_a1_tp)
  replace F_a1_size := F_a1_size.other W159 (Or.inl ne_a1_tp)
  replace V_tn := V_tn.other W159 ne_tn_tp
  replace V_ts := V_ts.other W159 ne_ts_tp
  replace V_tm := V_tm.other W159 ne_tm_tp
  replace Z0 := Nat.le_trans Z0 (Keep.of_wr W159).1
  replace KP := KP.wr W159 (Or.inl (List.mem_of_getElem? (i := 4) rfl))
  replace V_tp := Vn
  replace NF := Fr.snoc X159 NF g_tp
  clear W159 hin158 q158 S158 N158 H158 G158 Ar158
  show WP p.tables e below _ T159 (mkF m 14 #[.val (.ref a1), .val (.int 1)] [])
  refine WP.st (T' := T159) (f' := (mkF m 16 #[.val (.ref a1), .val (.int 1)] [(.ref a1), (.ref a1)])) (fun t k => ?_) ?_
  · refine XS.aloadN X159.here hx rfl (hb hby d10_14) rfl rfl ?_
    refine XS.dup X159.here hx rfl (hb hby d10_15) rfl rfl ?_
    exact k
  obtain ⟨T160, X160, e160, st160⟩ := getF X159 hx hZ hown (host := "") (Or.inl (w_24 hw)) Via.refl e159 F_a1_size (g := (mkF m 16 #[.val (.ref a1), .val (.int 1)] [(.ref a1), (.ref a1)])) rfl rfl (hb hby d10_16)
  refine WP.st st160 ?_
  clear st160
  show WP p.tables e below _ T160 (mkF m 19 #[.val (.ref a1), .val (.int 1)] [(.int 2), (.ref a1)])
  refine WP.st (T' := T160) (f' := (mkF m 21 #[.val (.ref a1), .val (.int 1)] [(.int ((2 : Int32) - (1 : Int32))), (.ref a1)])) (fun t k => ?_) ?_
  · refine XS.iconst X160.here hx rfl (hb hby d10_19) ?_
    refine XS.isub X160.here hx rfl (hb hby d10_20) rfl ?_
    exact k
  rw [show ((2 : Int32) - (1 : Int32)) = (1 : Int32) from by decide]
  show WP p.tables e below _ T160 (mkF m 21 #[.val (.ref a1), .val (.int 1)] [(.int 1), (.ref a1)])
  obtain ⟨T161, h161, X161, e161, W161, st161⟩ := putF X160 hx hZ hown (host := "") (Or.inl (w_24 hw)) Via.refl e160 F_a1_size E_a1 (Or.inl (w_25 hw)) (w_1 hw) (ty := .int) (by decide) rfl rfl (g := (mkF m 21 #[.val (.ref a1), .val (.int 1)] [(.int 1), (.ref a1)])) rfl rfl (hb hby d10_21)
  refine WP.st st161 ?_
  clear st161
  replace E_a1 := E_a1.wr W161
  replace F_a1_nodes := F_a1_nodes.other W161 (Or.inr (sn_16 hw))
  replace F_a1_seconds := F_a1_seconds.other W161 (Or.inr (sn_17 hw))
  replace F_a1_metres := F_a1_metres.other W161 (Or.inr (sn_18 hw))
  replace F_a1_position := F_a1_position.other W161 (Or.inr (sn_19 hw))
  replace F_a1_size := F_a1_size.same W161
  replace V_tn := V_tn.other W161 (Ne.symm ne_a1_tn)
  replace V_ts := V_ts.other W161 (Ne.symm ne_a1_ts)
  replace V_tm := V_tm.other W161 (Ne.symm ne_a1_tm)
  replace V_tp := V_tp.other W161 (Ne.symm ne_a1_tp)
  replace Z0 := Nat.le_trans Z0 (Keep.of_wr W161).1
  replace KP := KP.wr W161 (Or.inl (List.mem_of_getElem? (i := 0) rfl))
  replace NF := Fr.snoc X161 NF g_a1
  clear W161
  show WP p.tables e below _ T161 (mkF m 24 #[.val (.ref a1), .val (.int 1)] [])
  refine WP.st (T' := T161) (f' := (mkF m 25 #[.val (.ref a1), .val (.int 1)] [(.ref a1)])) (fun t k => ?_) ?_
  · refine XS.aloadN X161.here hx rfl (hb hby d10_24) rfl rfl ?_
    exact k
  obtain ⟨T162, X162, e162, st162⟩ := getF X161 hx hZ hown (host := "") (Or.inl (w_24 hw)) Via.refl e161 F_a1_size (g := (mkF m 25 #[.val (.ref a1), .val (.int 1)] [(.ref a1)])) rfl rfl (hb hby d10_25)
  refine WP.st st162 ?_
  clear st162
  show WP p.tables e below _ T162 (mkF m 28 #[.val (.ref a1), .val (.int 1)] [(.int 1)])
  refine WP.st (T' := T162) (f' := (mkF m 33 #[.val (.ref a1), .val (.int 1)] [(.ref a1), (.ref a1)])) (fun t k => ?_) ?_
  · refine XS.ifNo X162.here hx rfl (hb hby d10_28) rfl ((if0 _ _).trans (tlt (by decide : (0 : Int32) < (1 : Int32))).2.2.2) ?_
    refine XS.aloadN X162.here hx rfl (hb hby d10_31) rfl rfl ?_
    refine XS.aloadN X162.here hx rfl (hb hby d10_32) rfl rfl ?_
    exact k
  obtain ⟨T163, X163, e163, st163⟩ := getF X162 hx hZ hown (host := "") (Or.inl (w_10 hw)) Via.refl e162 F_a1_nodes (g := (mkF m 33 #[.val (.ref a1), .val (.int 1)] [(.ref a1), (.ref a1)])) rfl rfl (hb hby d10_33)
  refine WP.st st163 ?_
  clear st163
  show WP p.tables e below _ T163 (mkF m 36 #[.val (.ref a1), .val (.int 1)] [(.ref tn), (.ref a1)])
  refine WP.st (T' := T163) (f' := (mkF m 37 #[.val (.ref a1), .val (.int 1)] [(.ref a1), (.ref tn), (.ref a1)])) (fun t k => ?_) ?_
  · refine XS.aloadN X163.here hx rfl (hb hby d10_36) rfl rfl ?_
    exact k
  obtain ⟨T164, X164, e164, st164⟩ := getF X163 hx hZ hown (host := "") (Or.inl (w_24 hw)) Via.refl e163 F_a1_size (g := (mkF m 37 #[.val (.ref a1), .val (.int 1)] [(.ref a1), (.ref tn), (.ref a1)])) rfl rfl (hb hby d10_37)
  refine WP.st st164 ?_
  clear st164
  show WP p.tables e below _ T164 (mkF m 40 #[.val (.ref a1), .val (.int 1)] [(.int 1), (.ref tn), (.ref a1)])
  obtain ⟨cl165, Ar165, hin165, hat165, -⟩ := V_tn.rd (j := (1 : Int32)) ⟨by decide, by decide⟩
  replace hat165 : cl165.slots[((1 : Int32)).toNatClampNeg]? = some (.int 0) := hat165
  refine WP.st (T' := T164) (f' := (mkF m 42 #[.val (.ref a1), .val (.int 1)] [(.ref a1), (.int 0), (.ref a1)])) (fun t k => ?_) ?_
  · refine X164.iaload hx (j := (1 : Int32)) (v := (.int 0)) (by rw [e164]; exact Ar165.1) (State.isArrayOf_alike hZ.alike Ar165.2.1) Ar165.2.2 hin165 hat165 (g := (mkF m 40 #[.val (.ref a1), .val (.int 1)] [(.int 1), (.ref tn), (.ref a1)])) rfl rfl (hb hby d10_40) _ ?_
    refine XS.aloadN X164.here hx rfl (hb hby d10_41) rfl rfl ?_
    exact k
  obtain ⟨T166, X166, e166, st166⟩ := getF X164 hx hZ hown (host := "") (Or.inl (w_13 hw)) Via.refl e164 F_a1_seconds (g := (mkF m 42 #[.val (.ref a1), .val (.int 1)] [(.ref a1), (.int 0), (.ref a1)])) rfl rfl (hb hby d10_42)
  refine WP.st st166 ?_
  clear st166
  show WP p.tables e below _ T166 (mkF m 45 #[.val (.ref a1), .val (.int 1)] [(.ref ts), (.int 0), (.ref a1)])
  refine WP.st (T' := T166) (f' := (mkF m 46 #[.val (.ref a1), .val (.int 1)] [(.ref a1), (.ref ts), (.int 0), (.ref a1)])) (fun t k => ?_) ?_
  · refine XS.aloadN X166.here hx rfl (hb hby d10_45) rfl rfl ?_
    exact k
  obtain ⟨T167, X167, e167, st167⟩ := getF X166 hx hZ hown (host := "") (Or.inl (w_24 hw)) Via.refl e166 F_a1_size (g := (mkF m 46 #[.val (.ref a1), .val (.int 1)] [(.ref a1), (.ref ts), (.int 0), (.ref a1)])) rfl rfl (hb hby d10_46)
  refine WP.st st167 ?_
  clear st167
  show WP p.tables e below _ T167 (mkF m 49 #[.val (.ref a1), .val (.int 1)] [(.int 1), (.ref ts), (.int 0), (.ref a1)])
  obtain ⟨cl168, Ar168, hin168, hat168, -⟩ := V_ts.rd (j := (1 : Int32)) ⟨by decide, by decide⟩
  replace hat168 : cl168.slots[((1 : Int32)).toNatClampNeg]? = some (.double z1) := hat168
  refine WP.st (T' := T167) (f' := (mkF m 51 #[.val (.ref a1), .val (.int 1)] [(.ref a1), (.double z1), (.int 0), (.ref a1)])) (fun t k => ?_) ?_
  · refine X167.daload hx (j := (1 : Int32)) (v := (.double z1)) (by rw [e167]; exact Ar168.1) (State.isArrayOf_alike hZ.alike Ar168.2.1) Ar168.2.2 hin168 hat168 (g := (mkF m 49 #[.val (.ref a1), .val (.int 1)] [(.int 1), (.ref ts), (.int 0), (.ref a1)])) rfl rfl (hb hby d10_49) _ ?_
    refine XS.aloadN X167.here hx rfl (hb hby d10_50) rfl rfl ?_
    exact k
  obtain ⟨T169, X169, e169, st169⟩ := getF X167 hx hZ hown (host := "") (Or.inl (w_15 hw)) Via.refl e167 F_a1_metres (g := (mkF m 51 #[.val (.ref a1), .val (.int 1)] [(.ref a1), (.double z1), (.int 0), (.ref a1)])) rfl rfl (hb hby d10_51)
  refine WP.st st169 ?_
  clear st169
  show WP p.tables e below _ T169 (mkF m 54 #[.val (.ref a1), .val (.int 1)] [(.ref tm), (.double z1), (.int 0), (.ref a1)])
  refine WP.st (T' := T169) (f' := (mkF m 55 #[.val (.ref a1), .val (.int 1)] [(.ref a1), (.ref tm), (.double z1), (.int 0), (.ref a1)])) (fun t k => ?_) ?_
  · refine XS.aloadN X169.here hx rfl (hb hby d10_54) rfl rfl ?_
    exact k
  obtain ⟨T170, X170, e170, st170⟩ := getF X169 hx hZ hown (host := "") (Or.inl (w_24 hw)) Via.refl e169 F_a1_size (g := (mkF m 55 #[.val (.ref a1), .val (.int 1)] [(.ref a1), (.ref tm), (.double z1), (.int 0), (.ref a1)])) rfl rfl (hb hby d10_55)
  refine WP.st st170 ?_
  clear st170
  show WP p.tables e below _ T170 (mkF m 58 #[.val (.ref a1), .val (.int 1)] [(.int 1), (.ref tm), (.double z1), (.int 0), (.ref a1)])
  obtain ⟨cl171, Ar171, hin171, hat171, -⟩ := V_tm.rd (j := (1 : Int32)) ⟨by decide, by decide⟩
  replace hat171 : cl171.slots[((1 : Int32)).toNatClampNeg]? = some (.double z2) := hat171
  refine WP.st (T' := T170) (f' := (mkF m 60 #[.val (.ref a1), .val (.int 1)] [(.int 0), (.double z2), (.double z1), (.int 0), (.ref a1)])) (fun t k => ?_) ?_
  · refine X170.daload hx (j := (1 : Int32)) (v := (.double z2)) (by rw [e170]; exact Ar171.1) (State.isArrayOf_alike hZ.alike Ar171.2.1) Ar171.2.2 hin171 hat171 (g := (mkF m 58 #[.val (.ref a1), .val (.int 1)] [(.int 1), (.ref tm), (.double z1), (.int 0), (.ref a1)])) rfl rfl (hb hby d10_58) _ ?_
    refine XS.iconst X170.here hx rfl (hb hby d10_59) ?_
    exact k
  obtain ⟨cq172, q172, q172'⟩ := E_a1.cell
  obtain ⟨_, _, ⟨T172, L172, k172, n172⟩, -, X172, ⟨Lc172, hQ172, l172, y172, z172⟩, st172⟩ := X170.privateBack hx (y := (⟨"com/example/tandemcab/tandemcab/NodeQueue", "down", "(IDDI)V"⟩ : MethodName)) hown (mvT hZ (w_59 hw)) (mvT hZ (w_60 hw)) (ownSel (y := (⟨"com/example/tandemcab/tandemcab/NodeQueue", "down", "(IDDI)V"⟩ : MethodName)) (mvT hZ (w_22 hw)) rfl (Cond.privateMethod_at (mvP hZ (w_61 hw) (args := #[]))) (mvT hZ (w_60 hw)) (by decide)) (Cond.privateMethod_at (mvP hZ (w_61 hw) (args := #[]))) (mvT hZ (w_62 hw)) (by decide) (backOf (W := 0) (rm11t16 l Z a0 hw [] a1 z1 z2 tn ts tm tp kn ks km kp (.int 1) (.int 0) nd2 s0 (.double z1) s2 m0 (.double z2) m2 p0 (.int 0) p2 h161 n0 Z0 E_a1 F_a1_nodes F_a1_seconds F_a1_metres F_a1_position F_a1_size V_tn V_ts V_tm V_tp g_a1 g_tn g_ts g_tm g_tp ne_a1_tn ne_a1_ts ne_a1_tm ne_a1_tp ne_tn_ts ne_tn_tm ne_tn_tp ne_ts_tm ne_ts_tp ne_tm_tp) hZ (w_62 hw) (w_2 hw) (by decide) (by decide)) (g := (mkF m 60 #[.val (.ref a1), .val (.int 1)] [(.int 0), (.double z2), (.double z1), (.int 0), (.ref a1)])) rfl (by rw [hml]; rfl) (Steps.refl _) (a := a1) (by rw [e170]; exact q172) q172' (argsL := [(.int 0), (.double z1), (.double z2), (.int 0)]) (rest := []) (lenOf pd_2 rfl) rfl (by show 2 * 0 + _ ≤ _; exact Nat.le_of_eq rfl) (hb hby d10_60) (fun _ _ => ⟨rfl, e170, (by decide : 0 + 0 ≤ _), (by decide : 0 + 0 ≤ _)⟩)
  dsimp only [Pt.U, Pt.locs, Pt.cells, Pt.slots] at X172 l172 y172 z172 st172 hQ172
  subst l172 y172 z172
  obtain ⟨rfl, Nq172, Kq172, nF172_a1_nodes, nF172_a1_seconds, nF172_a1_metres, nF172_a1_position, nF172_a1_size, nA172_tn, nA172_ts, nA172_tm, nA172_tp⟩ := hQ172
  replace NF := Fr.app NF Nq172
  clear Nq172
  refine WP.tr st172 ?_
  clear st172
  obtain ⟨h172, e172⟩ : ∃ h, T172.heap = h := ⟨_, rfl⟩
  rw [e172] at Kq172 nF172_a1_nodes nF172_a1_seconds nF172_a1_metres nF172_a1_position nF172_a1_size nA172_tn nA172_ts nA172_tm nA172_tp
  replace E_a1 := E_a1.keep Kq172
  clear F_a1_nodes
  clear F_a1_seconds
  clear F_a1_metres
  clear F_a1_position
  clear F_a1_size
  clear V_tn
  clear V_ts
  clear V_tm
  clear V_tp
  replace Z0 := Nat.le_trans Z0 Kq172.1
  replace KP := KP.trans Kq172 (allS (Or.inl (List.mem_of_getElem? (i := 0) rfl)) (allS (Or.inl (List.mem_of_getElem? (i := 1) rfl)) (allS (Or.inl (List.mem_of_getElem? (i := 2) rfl)) (allS (Or.inl (List.mem_of_getElem? (i := 3) rfl)) (allS (Or.inl (List.mem_of_getElem? (i := 4) rfl)) all0)))))
  clear Kq172
  have F_a1_nodes := nF172_a1_nodes
  clear nF172_a1_nodes
  have F_a1_seconds := nF172_a1_seconds
  clear nF172_a1_seconds
  have F_a1_metres := nF172_a1_metres
  clear nF172_a1_metres
  have F_a1_position := nF172_a1_position
  clear nF172_a1_position
  have F_a1_size := nF172_a1_size
  clear nF172_a1_size
  have V_tn := nA172_tn
  clear nA172_tn
  have V_ts := nA172_ts
  clear nA172_ts
  have V_tm := nA172_tm
  clear nA172_tm
  have V_tp := nA172_tp
  clear nA172_tp
  show WP p.tables e below _ T172 (mkF m 63 #[.val (.ref a1), .val (.int 1)] [])
  refine WP.st (T' := T172) (f' := (mkF m 64 #[.val (.ref a1), .val (.int 1)] [(.int 1)])) (fun t k => ?_) ?_
  · refine XS.iloadN X172.here hx rfl (hb hby d10_63) rfl ?_
    exact k
  subst hG
  obtain ⟨fs, hr, hrun, hended, hW, hsame⟩ := X172.leave (v := some (.int 1)) (fun h => by rw [Bd.returns] at h; cases h)
  refine WP.fin ⟨_, _, ?_, hrun, hended, _, _, rfl, ?_, ⟨_, rfl⟩, hW, hsame.mono (by decide) (by decide)⟩
  · exact retI X172 hx Bd.returns (hb hby d10_64) hr
  · show Q10t15 Z a1 tn ts tm tp kn ks km kp nd2 s0 z1 s2 m0 z2 m2 p0 p1 p2 h0 n0 _ T172.heap _
    rw [e172]
    exact ⟨rfl, NF, KP, F_a1_nodes, F_a1_seconds, F_a1_metres, F_a1_position, F_a1_size, V_tn, V_ts, V_tm, V_tp⟩
theorem ef_10t17 (m : MethodId) (z0 : Addr) : entryFrame m #[(.ref z0)] 2 = mkF m 0 #[.val (.ref z0), .unset] [] := by
  all_goals first | (simp [entryFrame, mkF, argsToLocals, Value.category]; done) | rfl
def Q10t17 (Z : State) (a1 : Addr) (tn : Addr) (ts : Addr) (tm : Addr) (tp : Addr) (kn : ClassId) (ks : ClassId) (km : ClassId) (kp : ClassId) (nd1 : Value) (nd2 : Value) (s0 : Value) (s1 : Value) (s2 : Value) (m0 : Value) (m1 : Value) (m2 : Value) (p0 : Value) (p1 : Value) (p2 : Value) (h0 : Heap) (n0 : Nat) (v : Option Value) (h : Heap) (L : List Loc) : Prop := v = some (.int 0) ∧ Fr n0 L ∧ Keep h0 h [a1, tn, ts, tm, tp] ∧ Fld Z h a1 "com/example/tandemcab/tandemcab/NodeQueue" "nodes" "[I" (.ref tn) ∧ Fld Z h a1 "com/example/tandemcab/tandemcab/NodeQueue" "seconds" "[D" (.ref ts) ∧ Fld Z h a1 "com/example/tandemcab/tandemcab/NodeQueue" "metres" "[D" (.ref tm) ∧ Fld Z h a1 "com/example/tandemcab/tandemcab/NodeQueue" "position" "[I" (.ref tp) ∧ Fld Z h a1 "com/example/tandemcab/tandemcab/NodeQueue" "size" "I" (.int 0) ∧ (Arv Z h tn kn .int (3 : Int32) [(.int 0), nd1, nd2] (.int 0)) ∧ (Arv Z h ts ks .double (3 : Int32) [s0, s1, s2] (.double 0)) ∧ (Arv Z h tm km .double (3 : Int32) [m0, m1, m2] (.double 0)) ∧ (Arv Z h tp kp .int (3 : Int32) [(.int 0), p1, p2] (.int 0))
set_option maxRecDepth 65536 in
set_option maxHeartbeats 40000000 in
theorem rm10t17 (l : Launch) (Z : State) (a0 : Array Value) (hw : ∀ d ∈ tables_1, d.before a0 Z = true) (wsC : List Jvm.Cond) (a1 : Addr) (tn : Addr) (ts : Addr) (tm : Addr) (tp : Addr) (kn : ClassId) (ks : ClassId) (km : ClassId) (kp : ClassId) (nd1 : Value) (nd2 : Value) (s0 : Value) (s1 : Value) (s2 : Value) (m0 : Value) (m1 : Value) (m2 : Value) (p0 : Value) (p1 : Value) (p2 : Value) (h0 : Heap) (n0 : Nat) (Z0 : n0 ≤ h0.size) (E_a1 : Exa Z h0 a1 "com/example/tandemcab/tandemcab/NodeQueue") (F_a1_nodes : Fld Z h0 a1 "com/example/tandemcab/tandemcab/NodeQueue" "nodes" "[I" (.ref tn)) (F_a1_seconds : Fld Z h0 a1 "com/example/tandemcab/tandemcab/NodeQueue" "seconds" "[D" (.ref ts)) (F_a1_metres : Fld Z h0 a1 "com/example/tandemcab/tandemcab/NodeQueue" "metres" "[D" (.ref tm)) (F_a1_position : Fld Z h0 a1 "com/example/tandemcab/tandemcab/NodeQueue" "position" "[I" (.ref tp)) (F_a1_size : Fld Z h0 a1 "com/example/tandemcab/tandemcab/NodeQueue" "size" "I" (.int 1)) (V_tn : Arv Z h0 tn kn .int (3 : Int32) [(.int 0), nd1, nd2] (.int 0)) (V_ts : Arv Z h0 ts ks .double (3 : Int32) [s0, s1, s2] (.double 0)) (V_tm : Arv Z h0 tm km .double (3 : Int32) [m0, m1, m2] (.double 0)) (V_tp : Arv Z h0 tp kp .int (3 : Int32) [p0, p1, p2] (.int 0)) (g_a1 : n0 ≤ a1) (g_tn : n0 ≤ tn) (g_ts : n0 ≤ ts) (g_tm : n0 ≤ tm) (g_tp : n0 ≤ tp) (ne_a1_tn : a1 ≠ tn) (ne_a1_ts : a1 ≠ ts) (ne_a1_tm : a1 ≠ tm) (ne_a1_tp : a1 ≠ tp) (ne_tn_ts : tn ≠ ts) (ne_tn_tm : tn ≠ tm) (ne_tn_tp : tn ≠ tp) (ne_ts_tm : ts ≠ tm) (ne_ts_tp : ts ≠ tp) (ne_tm_tp : tm ≠ tp) :
    MetFree l (⟨"com/example/tandemcab/tandemcab/NodeQueue", "poll", "()I"⟩ : MethodName) (head1 (Jvm.Cond.code (⟨"com/example/tandemcab/tandemcab/NodeQueue", "poll", "()I"⟩ : MethodName) prog_49_method_6_code 2 (some .int) :: wsC) ({ frames := 0, cells := 0, slots := 0, locals := 0 } : Room)) (fun a U => a = #[(.ref a1)] ∧ Z.Warmed39 U.vm ∧ U.heap = h0) (fun _ _ _ _ _ => True) (fun _ U o U' => ∃ v L, o = .returned v ∧ Q10t17 Z a1 tn ts tm tp kn ks km kp nd1 nd2 s0 s1 s2 m0 m1 m2 p0 p1 p2 h0 n0 v U'.heap L ∧ FrameEnd U o U' L ({ frames := 0, cells := 0, slots := 0, locals := 0 } : Room).cells ({ frames := 0, cells := 0, slots := 0, locals := 0 } : Room).slots) := by
  refine MetFree.of_bodySF (plainFor_of_name pn_0) hisR ?_
  intro p e s m args below meth c s₁ Bd hml0 hP hK
  obtain ⟨rfl, hZ, hh⟩ := hP
  have hx := Bd.exec
  have hby := Bd.bytes
  have hml : c.maxLocals = 2 := hml0
  have hown : s.vm.findClass "com/example/tandemcab/tandemcab/NodeQueue" = some m.cls := findClass_of_methodNamed Bd.named
  have hnm := (name_of_methodNamed Bd.named Bd.method).1
  have X0 : Stand p l e ({ frames := 0, cells := 0, slots := 0, locals := 0 } : Room) s m #[(.ref a1)] below meth c s₁ [] 0 0 := Stand.of_body Bd
  have e0 : s₁.heap = h0 := by rw [← hh, Bd.state]; rfl
  have NF := Fr.nil n0
  have KP : Keep h0 h0 [a1, tn, ts, tm, tp] := Keep.refl h0 _
  refine WP.go ?_
  refine WP.cast (ef_10t17 m a1) ?_
  refine WP.name ?_
  intro G hG
  refine WP.st (T' := s₁) (f' := (mkF m 1 #[.val (.ref a1), .unset] [(.ref a1)])) (fun t k => ?_) ?_
  · refine XS.aloadN X0.here hx rfl (hb hby d10_0) rfl rfl ?_
    exact k
  obtain ⟨T174, X174, e174, st174⟩ := getF X0 hx hZ hown (host := "") (Or.inl (w_10 hw)) Via.refl e0 F_a1_nodes (g := (mkF m 1 #[.val (.ref a1), .unset] [(.ref a1)])) rfl rfl (hb hby d10_1)
  refine WP.st st174 ?_
  clear st174
  show WP p.tables e below _ T174 (mkF m 4 #[.val (.ref a1), .unset] [(.ref tn)])
  refine WP.st (T' := T174) (f' := (mkF m 5 #[.val (.ref a1), .unset] [(.int 0), (.ref tn)])) (fun t k => ?_) ?_
  · refine XS.iconst X174.here hx rfl (hb hby d10_4) ?_
    exact k
  obtain ⟨cl175, Ar175, hin175, hat175, -⟩ := V_tn.rd (j := (0 : Int32)) ⟨by decide, by decide⟩
  replace hat175 : cl175.slots[((0 : Int32)).toNatClampNeg]? = some (.int 0) := hat175
  refine WP.st (T' := T174) (f' := (mkF m 8 #[.val (.ref a1), .val (.int 0)] [(.ref a1)])) (fun t k => ?_) ?_
  · refine X174.iaload hx (j := (0 : Int32)) (v := (.int 0)) (by rw [e174]; exact Ar175.1) (State.isArrayOf_alike hZ.alike Ar175.2.1) Ar175.2.2 hin175 hat175 (g := (mkF m 5 #[.val (.ref a1), .unset] [(.int 0), (.ref tn)])) rfl rfl (hb hby d10_5) _ ?_
    refine XS.istoreN X174.here hx rfl (hb hby d10_6) rfl (l' := #[.val (.ref a1), .val (.int 0)]) rfl ?_
    refine XS.aloadN X174.here hx rfl (hb hby d10_7) rfl rfl ?_
    exact k
  obtain ⟨T176, X176, e176, st176⟩ := getF X174 hx hZ hown (host := "") (Or.inl (w_17 hw)) Via.refl e174 F_a1_position (g := (mkF m 8 #[.val (.ref a1), .val (.int 0)] [(.ref a1)])) rfl rfl (hb hby d10_8)
  refine WP.st st176 ?_
  clear st176
  show WP p.tables e below _ T176 (mkF m 11 #[.val (.ref a1), .val (.int 0)] [(.ref tp)])
  refine WP.st (T' := T176) (f' := (mkF m 13 #[.val (.ref a1), .val (.int 0)] [(.int 0), (.int 0), (.ref tp)])) (fun t k => ?_) ?_
  · refine XS.iloadN X176.here hx rfl (hb hby d10_11) rfl ?_
    refine XS.iconst X176.here hx rfl (hb hby d10_12) ?_
    exact k
  obtain ⟨cl177, Ar177, q177, S177, N177, H177, G177⟩ := V_tp
  have hin177 : ¬ ((0 : Int32) < 0 ∨ cl177.slots.size ≤ ((0 : Int32)).toNatClampNeg) := inb_of S177 ⟨by decide, by decide⟩
  obtain ⟨T178, h178, X178, e178, W178, st178⟩ := stI X176 hx hZ e176 Ar177 (j := (0 : Int32)) hin177 (g := (mkF m 13 #[.val (.ref a1), .val (.int 0)] [(.int 0), (.int 0), (.ref tp)])) rfl rfl (hb hby d10_13)
  refine WP.st st178 ?_
  clear st178
  have Vn : Arv Z h178 tp kp .int (3 : Int32) [(.int 0), p1, p2] (.int 0) := Arv.set Ar177 q177 S177 N177 H177 G177 rfl W178 0 rfl (Nat.le_of_ble_eq_true rfl)
  replace E_a1 := E_a1.wr W178
  replace F_a1_nodes := F_a1_nodes.other W178 (Or.inl ne_a1_tp)
  replace F_a1_seconds := F_a1_seconds.other W178 (Or.inl ne_a1_tp)
  replace F_a1_metres := F_a1_metres.other W178 (Or.inl ne_a1_tp)
  replace F_a1_position := F_a1_position.other W178 (Or.inl ne_a1_tp)
  replace F_a1_size := F_a1_size.other W178 (Or.inl ne_a1_tp)
  replace V_tn := V_tn.other W178 ne_tn_tp
  replace V_ts := V_ts.other W178 ne_ts_tp
  replace V_tm := V_tm.other W178 ne_tm_tp
  replace Z0 := Nat.le_trans Z0 (Keep.of_wr W178).1
  replace KP := KP.wr W178 (Or.inl (List.mem_of_getElem? (i := 4) rfl))
  replace V_tp := Vn
  replace NF := Fr.snoc X178 NF g_tp
  clear W178 hin177 q177 S177 N177 H177 G177 Ar177
  show WP p.tables e below _ T178 (mkF m 14 #[.val (.ref a1), .val (.int 0)] [])
  refine WP.st (T' := T178) (f' := (mkF m 16 #[.val (.ref a1), .val (.int 0)] [(.ref a1), (.ref a1)])) (fun t k => ?_) ?_
  · refine XS.aloadN X178.here hx rfl (hb hby d10_14) rfl rfl ?_
    refine XS.dup X178.here hx rfl (hb hby d10_15) rfl rfl ?_
    exact k
  obtain ⟨T179, X179, e179, st179⟩ := getF X178 hx hZ hown (host := "") (Or.inl (w_24 hw)) Via.refl e178 F_a1_size (g := (mkF m 16 #[.val (.ref a1), .val (.int 0)] [(.ref a1), (.ref a1)])) rfl rfl (hb hby d10_16)
  refine WP.st st179 ?_
  clear st179
  show WP p.tables e below _ T179 (mkF m 19 #[.val (.ref a1), .val (.int 0)] [(.int 1), (.ref a1)])
  refine WP.st (T' := T179) (f' := (mkF m 21 #[.val (.ref a1), .val (.int 0)] [(.int ((1 : Int32) - (1 : Int32))), (.ref a1)])) (fun t k => ?_) ?_
  · refine XS.iconst X179.here hx rfl (hb hby d10_19) ?_
    refine XS.isub X179.here hx rfl (hb hby d10_20) rfl ?_
    exact k
  rw [show ((1 : Int32) - (1 : Int32)) = (0 : Int32) from by decide]
  show WP p.tables e below _ T179 (mkF m 21 #[.val (.ref a1), .val (.int 0)] [(.int 0), (.ref a1)])
  obtain ⟨T180, h180, X180, e180, W180, st180⟩ := putF X179 hx hZ hown (host := "") (Or.inl (w_24 hw)) Via.refl e179 F_a1_size E_a1 (Or.inl (w_25 hw)) (w_1 hw) (ty := .int) (by decide) rfl rfl (g := (mkF m 21 #[.val (.ref a1), .val (.int 0)] [(.int 0), (.ref a1)])) rfl rfl (hb hby d10_21)
  refine WP.st st180 ?_
  clear st180
  replace E_a1 := E_a1.wr W180
  replace F_a1_nodes := F_a1_nodes.other W180 (Or.inr (sn_16 hw))
  replace F_a1_seconds := F_a1_seconds.other W180 (Or.inr (sn_17 hw))
  replace F_a1_metres := F_a1_metres.other W180 (Or.inr (sn_18 hw))
  replace F_a1_position := F_a1_position.other W180 (Or.inr (sn_19 hw))
  replace F_a1_size := F_a1_size.same W180
  replace V_tn := V_tn.other W180 (Ne.symm ne_a1_tn)
  replace V_ts := V_ts.other W180 (Ne.symm ne_a1_ts)
  replace V_tm := V_tm.other W180 (Ne.symm ne_a1_tm)
  replace V_tp := V_tp.other W180 (Ne.symm ne_a1_tp)
  replace Z0 := Nat.le_trans Z0 (Keep.of_wr W180).1
  replace KP := KP.wr W180 (Or.inl (List.mem_of_getElem? (i := 0) rfl))
  replace NF := Fr.snoc X180 NF g_a1
  clear W180
  show WP p.tables e below _ T180 (mkF m 24 #[.val (.ref a1), .val (.int 0)] [])
  refine WP.st (T' := T180) (f' := (mkF m 25 #[.val (.ref a1), .val (.int 0)] [(.ref a1)])) (fun t k => ?_) ?_
  · refine XS.aloadN X180.here hx rfl (hb hby d10_24) rfl rfl ?_
    exact k
  obtain ⟨T181, X181, e181, st181⟩ := getF X180 hx hZ hown (host := "") (Or.inl (w_24 hw)) Via.refl e180 F_a1_size (g := (mkF m 25 #[.val (.ref a1), .val (.int 0)] [(.ref a1)])) rfl rfl (hb hby d10_25)
  refine WP.st st181 ?_
  clear st181
  show WP p.tables e below _ T181 (mkF m 28 #[.val (.ref a1), .val (.int 0)] [(.int 0)])
  refine WP.st (T' := T181) (f' := (mkF m 64 #[.val (.ref a1), .val (.int 0)] [(.int 0)])) (fun t k => ?_) ?_
  · refine XS.ifYes X181.here hx rfl (pc0 := 28) (pc' := 63) rfl (hb hby d10_28) rfl ((if0 _ _).trans (flt (by decide : ¬ ((0 : Int32) < (0 : Int32)))).2.2.2) (by decide) (by decide) ?_
    refine XS.iloadN X181.here hx rfl (hb hby d10_63) rfl ?_
    exact k
  subst hG
  obtain ⟨fs, hr, hrun, hended, hW, hsame⟩ := X181.leave (v := some (.int 0)) (fun h => by rw [Bd.returns] at h; cases h)
  refine WP.fin ⟨_, _, ?_, hrun, hended, _, _, rfl, ?_, ⟨_, rfl⟩, hW, hsame.mono (by decide) (by decide)⟩
  · exact retI X181 hx Bd.returns (hb hby d10_64) hr
  · show Q10t17 Z a1 tn ts tm tp kn ks km kp nd1 nd2 s0 s1 s2 m0 m1 m2 p0 p1 p2 h0 n0 _ T181.heap _
    rw [e181]
    exact ⟨rfl, NF, KP, F_a1_nodes, F_a1_seconds, F_a1_metres, F_a1_position, F_a1_size, V_tn, V_ts, V_tm, V_tp⟩
theorem ef_3t18 (m : MethodId) (z0 : Addr) : entryFrame m #[(.ref z0)] 2 = mkF m 0 #[.val (.ref z0), .unset] [] := by
  all_goals first | (simp [entryFrame, mkF, argsToLocals, Value.category]; done) | rfl
theorem d3_0 : decode prog_49_method_3_code 0 = .ok (.iconst 0, 1) := by decide +kernel
theorem d3_1 : decode prog_49_method_3_code 1 = .ok (.istore_n 1, 1) := by decide +kernel
theorem d3_2 : decode prog_49_method_3_code 2 = .ok (.iload_n 1, 1) := by decide +kernel
theorem d3_3 : decode prog_49_method_3_code 3 = .ok (.aload_n 0, 1) := by decide +kernel
theorem d3_4 : decode prog_49_method_3_code 4 = .ok (.getfield 23, 3) := by decide +kernel
theorem d3_7 : decode prog_49_method_3_code 7 = .ok (.if_icmp .ge 21, 3) := by decide +kernel
theorem d3_28 : decode prog_49_method_3_code 28 = .ok (.aload_n 0, 1) := by decide +kernel
theorem d3_29 : decode prog_49_method_3_code 29 = .ok (.iconst 0, 1) := by decide +kernel
theorem d3_30 : decode prog_49_method_3_code 30 = .ok (.putfield 23, 3) := by decide +kernel
theorem d3_33 : decode prog_49_method_3_code 33 = .ok (.return_, 1) := by decide +kernel
def Q3t18 (Z : State) (a1 : Addr) (tn : Addr) (ts : Addr) (tm : Addr) (tp : Addr) (kn : ClassId) (ks : ClassId) (km : ClassId) (kp : ClassId) (nd0 : Value) (nd1 : Value) (nd2 : Value) (s0 : Value) (s1 : Value) (s2 : Value) (m0 : Value) (m1 : Value) (m2 : Value) (p0 : Value) (p1 : Value) (p2 : Value) (h0 : Heap) (n0 : Nat) (v : Option Value) (h : Heap) (L : List Loc) : Prop := v = none ∧ Fr n0 L ∧ Keep h0 h [a1, tn, ts, tm, tp] ∧ Fld Z h a1 "com/example/tandemcab/tandemcab/NodeQueue" "nodes" "[I" (.ref tn) ∧ Fld Z h a1 "com/example/tandemcab/tandemcab/NodeQueue" "seconds" "[D" (.ref ts) ∧ Fld Z h a1 "com/example/tandemcab/tandemcab/NodeQueue" "metres" "[D" (.ref tm) ∧ Fld Z h a1 "com/example/tandemcab/tandemcab/NodeQueue" "position" "[I" (.ref tp) ∧ Fld Z h a1 "com/example/tandemcab/tandemcab/NodeQueue" "size" "I" (.int 0) ∧ (Arv Z h tn kn .int (3 : Int32) [nd0, nd1, nd2] (.int 0)) ∧ (Arv Z h ts ks .double (3 : Int32) [s0, s1, s2] (.double 0)) ∧ (Arv Z h tm km .double (3 : Int32) [m0, m1, m2] (.double 0)) ∧ (Arv Z h tp kp .int (3 : Int32) [p0, p1, p2] (.int 0))
set_option maxRecDepth 65536 in
set_option maxHeartbeats 40000000 in
theorem rm3t18 (l : Launch) (Z : State) (a0 : Array Value) (hw : ∀ d ∈ tables_1, d.before a0 Z = true) (wsC : List Jvm.Cond) (a1 : Addr) (tn : Addr) (ts : Addr) (tm : Addr) (tp : Addr) (kn : ClassId) (ks : ClassId) (km : ClassId) (kp : ClassId) (nd0 : Value) (nd1 : Value) (nd2 : Value) (s0 : Value) (s1 : Value) (s2 : Value) (m0 : Value) (m1 : Value) (m2 : Value) (p0 : Value) (p1 : Value) (p2 : Value) (h0 : Heap) (n0 : Nat) (Z0 : n0 ≤ h0.size) (E_a1 : Exa Z h0 a1 "com/example/tandemcab/tandemcab/NodeQueue") (F_a1_nodes : Fld Z h0 a1 "com/example/tandemcab/tandemcab/NodeQueue" "nodes" "[I" (.ref tn)) (F_a1_seconds : Fld Z h0 a1 "com/example/tandemcab/tandemcab/NodeQueue" "seconds" "[D" (.ref ts)) (F_a1_metres : Fld Z h0 a1 "com/example/tandemcab/tandemcab/NodeQueue" "metres" "[D" (.ref tm)) (F_a1_position : Fld Z h0 a1 "com/example/tandemcab/tandemcab/NodeQueue" "position" "[I" (.ref tp)) (F_a1_size : Fld Z h0 a1 "com/example/tandemcab/tandemcab/NodeQueue" "size" "I" (.int 0)) (V_tn : Arv Z h0 tn kn .int (3 : Int32) [nd0, nd1, nd2] (.int 0)) (V_ts : Arv Z h0 ts ks .double (3 : Int32) [s0, s1, s2] (.double 0)) (V_tm : Arv Z h0 tm km .double (3 : Int32) [m0, m1, m2] (.double 0)) (V_tp : Arv Z h0 tp kp .int (3 : Int32) [p0, p1, p2] (.int 0)) (g_a1 : n0 ≤ a1) (g_tn : n0 ≤ tn) (g_ts : n0 ≤ ts) (g_tm : n0 ≤ tm) (g_tp : n0 ≤ tp) (ne_a1_tn : a1 ≠ tn) (ne_a1_ts : a1 ≠ ts) (ne_a1_tm : a1 ≠ tm) (ne_a1_tp : a1 ≠ tp) (ne_tn_ts : tn ≠ ts) (ne_tn_tm : tn ≠ tm) (ne_tn_tp : tn ≠ tp) (ne_ts_tm : ts ≠ tm) (ne_ts_tp : ts ≠ tp) (ne_tm_tp : tm ≠ tp) :
    MetFree l (⟨"com/example/tandemcab/tandemcab/NodeQueue", "clear", "()V"⟩ : MethodName) (head1 (Jvm.Cond.code (⟨"com/example/tandemcab/tandemcab/NodeQueue", "clear", "()V"⟩ : MethodName) prog_49_method_3_code 2 none :: wsC) ({ frames := 0, cells := 0, slots := 0, locals := 0 } : Room)) (fun a U => a = #[(.ref a1)] ∧ Z.Warmed39 U.vm ∧ U.heap = h0) (fun _ _ _ _ _ => True) (fun _ U o U' => ∃ v L, o = .returned v ∧ Q3t18 Z a1 tn ts tm tp kn ks km kp nd0 nd1 nd2 s0 s1 s2 m0 m1 m2 p0 p1 p2 h0 n0 v U'.heap L ∧ FrameEnd U o U' L ({ frames := 0, cells := 0, slots := 0, locals := 0 } : Room).cells ({ frames := 0, cells := 0, slots := 0, locals := 0 } : Room).slots) := by
  refine MetFree.of_bodySF (plainFor_of_name pn_0) hisR ?_
  intro p e s m args below meth c s₁ Bd hml0 hP hK
  obtain ⟨rfl, hZ, hh⟩ := hP
  have hx := Bd.exec
  have hby := Bd.bytes
  have hml : c.maxLocals = 2 := hml0
  have hown : s.vm.findClass "com/example/tandemcab/tandemcab/NodeQueue" = some m.cls := findClass_of_methodNamed Bd.named
  have hnm := (name_of_methodNamed Bd.named Bd.method).1
  have X0 : Stand p l e ({ frames := 0, cells := 0, slots := 0, locals := 0 } : Room) s m #[(.ref a1)] below meth c s₁ [] 0 0 := Stand.of_body Bd
  have e0 : s₁.heap = h0 := by rw [← hh, Bd.state]; rfl
  have NF := Fr.nil n0
  have KP : Keep h0 h0 [a1, tn, ts, tm, tp] := Keep.refl h0 _
  refine WP.go ?_
  refine WP.cast (ef_3t18 m a1) ?_
  refine WP.name ?_
  intro G hG
  refine WP.st (T' := s₁) (f' := (mkF m 4 #[.val (.ref a1), .val (.int 0)] [(.ref a1), (.int 0)])) (fun t k => ?_) ?_
  · refine XS.iconst X0.here hx rfl (hb hby d3_0) ?_
    refine XS.istoreN X0.here hx rfl (hb hby d3_1) rfl (l' := #[.val (.ref a1), .val (.int 0)]) rfl ?_
    refine XS.iloadN X0.here hx rfl (hb hby d3_2) rfl ?_
    refine XS.aloadN X0.here hx rfl (hb hby d3_3) rfl rfl ?_
    exact k
  obtain ⟨T184, X184, e184, st184⟩ := getF X0 hx hZ hown (host := "") (Or.inl (w_24 hw)) Via.refl e0 F_a1_size (g := (mkF m 4 #[.val (.ref a1), .val (.int 0)] [(.ref a1), (.int 0)])) rfl rfl (hb hby d3_4)
  refine WP.st st184 ?_
  clear st184
  show WP p.tables e below _ T184 (mkF m 7 #[.val (.ref a1), .val (.int 0)] [(.int 0), (.int 0)])
  refine WP.st (T' := T184) (f' := (mkF m 30 #[.val (.ref a1), .val (.int 0)] [(.int 0), (.ref a1)])) (fun t k => ?_) ?_
  · refine XS.icmpYes X184.here hx rfl (pc0 := 7) (pc' := 28) rfl (hb hby d3_7) rfl (flt (by decide : ¬ ((0 : Int32) < (0 : Int32)))).2.1 (by decide) (by decide) ?_
    refine XS.aloadN X184.here hx rfl (hb hby d3_28) rfl rfl ?_
    refine XS.iconst X184.here hx rfl (hb hby d3_29) ?_
    exact k
  obtain ⟨T185, h185, X185, e185, W185, st185⟩ := putF X184 hx hZ hown (host := "") (Or.inl (w_24 hw)) Via.refl e184 F_a1_size E_a1 (Or.inl (w_25 hw)) (w_1 hw) (ty := .int) (by decide) rfl rfl (g := (mkF m 30 #[.val (.ref a1), .val (.int 0)] [(.int 0), (.ref a1)])) rfl rfl (hb hby d3_30)
  refine WP.st st185 ?_
  clear st185
  replace E_a1 := E_a1.wr W185
  replace F_a1_nodes := F_a1_nodes.other W185 (Or.inr (sn_16 hw))
  replace F_a1_seconds := F_a1_seconds.other W185 (Or.inr (sn_17 hw))
  replace F_a1_metres := F_a1_metres.other W185 (Or.inr (sn_18 hw))
  replace F_a1_position := F_a1_position.other W185 (Or.inr (sn_19 hw))
  replace F_a1_size := F_a1_size.same W185
  replace V_tn := V_tn.other W185 (Ne.symm ne_a1_tn)
  replace V_ts := V_ts.other W185 (Ne.symm ne_a1_ts)
  replace V_tm := V_tm.other W185 (Ne.symm ne_a1_tm)
  replace V_tp := V_tp.other W185 (Ne.symm ne_a1_tp)
  replace Z0 := Nat.le_trans Z0 (Keep.of_wr W185).1
  replace KP := KP.wr W185 (Or.inl (List.mem_of_getElem? (i := 0) rfl))
  replace NF := Fr.snoc X185 NF g_a1
  clear W185
  show WP p.tables e below _ T185 (mkF m 33 #[.val (.ref a1), .val (.int 0)] [])
  subst hG
  obtain ⟨fs, hr, hrun, hended, hW, hsame⟩ := X185.leave (v := none) (fun _ => rfl)
  refine WP.fin ⟨_, _, ?_, hrun, hended, _, _, rfl, ?_, ⟨_, rfl⟩, hW, hsame.mono (by decide) (by decide)⟩
  · exact X185.returnOut hx Bd.returns (hb hby d3_33) hr
  · show Q3t18 Z a1 tn ts tm tp kn ks km kp nd0 nd1 nd2 s0 s1 s2 m0 m1 m2 p0 p1 p2 h0 n0 _ T185.heap _
    rw [e185]
    exact ⟨rfl, NF, KP, F_a1_nodes, F_a1_seconds, F_a1_metres, F_a1_position, F_a1_size, V_tn, V_ts, V_tm, V_tp⟩
theorem w_19 {a0 : Array Value} {Z : State} (hw : ∀ d ∈ tables_1, d.before a0 Z = true) : (Jvm.Cond.methodLink "com/example/tandemcab/tandemcab/NodeQueueClearPinLaw" (16 : Nat) ({ cls := "com/example/tandemcab/tandemcab/NodeQueue", name := "clear", desc := "()V" } : Jvm.MethodName)).before a0 Z = true := hw _ (List.mem_of_getElem? (i := 19) rfl)
theorem w_23 {a0 : Array Value} {Z : State} (hw : ∀ d ∈ tables_1, d.before a0 Z = true) : (Jvm.Cond.code ({ cls := "com/example/tandemcab/tandemcab/NodeQueue", name := "clear", desc := "()V" } : Jvm.MethodName) prog_49_method_3_code (2 : Nat) (Option.none : Option Jvm.ClassFile.FieldType)).before a0 Z = true := hw _ (List.mem_of_getElem? (i := 23) rfl)
theorem pd_7 : parseMethodDescriptor "()V" = some ⟨[], none⟩ := by decide +kernel
theorem w_20 {a0 : Array Value} {Z : State} (hw : ∀ d ∈ tables_1, d.before a0 Z = true) : (Jvm.Cond.declares ({ cls := "com/example/tandemcab/tandemcab/NodeQueue", name := "clear", desc := "()V" } : Jvm.MethodName)).before a0 Z = true := hw _ (List.mem_of_getElem? (i := 20) rfl)
theorem w_21 {a0 : Array Value} {Z : State} (hw : ∀ d ∈ tables_1, d.before a0 Z = true) : (Jvm.Cond.instanceMethod ({ cls := "com/example/tandemcab/tandemcab/NodeQueue", name := "clear", desc := "()V" } : Jvm.MethodName)).before a0 Z = true := hw _ (List.mem_of_getElem? (i := 21) rfl)
theorem ef_6t20 (m : MethodId) (z0 : Addr) (z2 : UInt64) (z3 : UInt64) : entryFrame m #[(.ref z0), (.int 2), (.double z2), (.double z3), (.int 0)] 8 = mkF m 0 #[.val (.ref z0), .val (.int 2), .val (.double z2), .second, .val (.double z3), .second, .val (.int 0), .unset] [] := by
  all_goals first | (simp [entryFrame, mkF, argsToLocals, Value.category]; done) | rfl
def Q6t20 (Z : State) (a1 : Addr) (x1 : UInt64) (x2 : UInt64) (tn : Addr) (ts : Addr) (tm : Addr) (tp : Addr) (kn : ClassId) (ks : ClassId) (km : ClassId) (kp : ClassId) (nd0 : Value) (nd1 : Value) (nd2 : Value) (s0 : Value) (s1 : Value) (s2 : Value) (m0 : Value) (m1 : Value) (m2 : Value) (p0 : Value) (p1 : Value) (p2 : Value) (u_size : Int32) (h0 : Heap) (n0 : Nat) (v : Option Value) (h : Heap) (L : List Loc) : Prop := v = none ∧ Fr n0 L ∧ Keep h0 h [a1, tn, ts, tm, tp] ∧ Fld Z h a1 "com/example/tandemcab/tandemcab/NodeQueue" "nodes" "[I" (.ref tn) ∧ Fld Z h a1 "com/example/tandemcab/tandemcab/NodeQueue" "seconds" "[D" (.ref ts) ∧ Fld Z h a1 "com/example/tandemcab/tandemcab/NodeQueue" "metres" "[D" (.ref tm) ∧ Fld Z h a1 "com/example/tandemcab/tandemcab/NodeQueue" "position" "[I" (.ref tp) ∧ Fld Z h a1 "com/example/tandemcab/tandemcab/NodeQueue" "size" "I" (.int u_size) ∧ (Arv Z h tn kn .int (3 : Int32) [(.int 2), nd1, nd2] (.int 0)) ∧ (Arv Z h ts ks .double (3 : Int32) [(.double x1), s1, s2] (.double 0)) ∧ (Arv Z h tm km .double (3 : Int32) [(.double x2), m1, m2] (.double 0)) ∧ (Arv Z h tp kp .int (3 : Int32) [p0, p1, (.int 1)] (.int 0))
set_option maxRecDepth 65536 in
set_option maxHeartbeats 40000000 in
theorem rm6t20 (l : Launch) (Z : State) (a0 : Array Value) (hw : ∀ d ∈ tables_1, d.before a0 Z = true) (wsC : List Jvm.Cond) (a1 : Addr) (x1 : UInt64) (x2 : UInt64) (tn : Addr) (ts : Addr) (tm : Addr) (tp : Addr) (kn : ClassId) (ks : ClassId) (km : ClassId) (kp : ClassId) (nd0 : Value) (nd1 : Value) (nd2 : Value) (s0 : Value) (s1 : Value) (s2 : Value) (m0 : Value) (m1 : Value) (m2 : Value) (p0 : Value) (p1 : Value) (p2 : Value) (u_size : Int32) (h0 : Heap) (n0 : Nat) (Z0 : n0 ≤ h0.size) (E_a1 : Exa Z h0 a1 "com/example/tandemcab/tandemcab/NodeQueue") (F_a1_nodes : Fld Z h0 a1 "com/example/tandemcab/tandemcab/NodeQueue" "nodes" "[I" (.ref tn)) (F_a1_seconds : Fld Z h0 a1 "com/example/tandemcab/tandemcab/NodeQueue" "seconds" "[D" (.ref ts)) (F_a1_metres : Fld Z h0 a1 "com/example/tandemcab/tandemcab/NodeQueue" "metres" "[D" (.ref tm)) (F_a1_position : Fld Z h0 a1 "com/example/tandemcab/tandemcab/NodeQueue" "position" "[I" (.ref tp)) (F_a1_size : Fld Z h0 a1 "com/example/tandemcab/tandemcab/NodeQueue" "size" "I" (.int u_size)) (V_tn : Arv Z h0 tn kn .int (3 : Int32) [nd0, nd1, nd2] (.int 0)) (V_ts : Arv Z h0 ts ks .double (3 : Int32) [s0, s1, s2] (.double 0)) (V_tm : Arv Z h0 tm km .double (3 : Int32) [m0, m1, m2] (.double 0)) (V_tp : Arv Z h0 tp kp .int (3 : Int32) [p0, p1, p2] (.int 0)) (g_a1 : n0 ≤ a1) (g_tn : n0 ≤ tn) (g_ts : n0 ≤ ts) (g_tm : n0 ≤ tm) (g_tp : n0 ≤ tp) (ne_a1_tn : a1 ≠ tn) (ne_a1_ts : a1 ≠ ts) (ne_a1_tm : a1 ≠ tm) (ne_a1_tp : a1 ≠ tp) (ne_tn_ts : tn ≠ ts) (ne_tn_tm : tn ≠ tm) (ne_tn_tp : tn ≠ tp) (ne_ts_tm : ts ≠ tm) (ne_ts_tp : ts ≠ tp) (ne_tm_tp : tm ≠ tp) :
    MetFree l (⟨"com/example/tandemcab/tandemcab/NodeQueue", "up", "(IDDI)V"⟩ : MethodName) (head1 (Jvm.Cond.code (⟨"com/example/tandemcab/tandemcab/NodeQueue", "up", "(IDDI)V"⟩ : MethodName) prog_49_method_7_code 8 none :: wsC) ({ frames := 1, cells := 0, slots := 0, locals := 18 } : Room)) (fun a U => a = #[(.ref a1), (.int 2), (.double x1), (.double x2), (.int 0)] ∧ Z.Warmed39 U.vm ∧ U.heap = h0) (fun _ _ _ _ _ => True) (fun _ U o U' => ∃ v L, o = .returned v ∧ Q6t20 Z a1 x1 x2 tn ts tm tp kn ks km kp nd0 nd1 nd2 s0 s1 s2 m0 m1 m2 p0 p1 p2 u_size h0 n0 v U'.heap L ∧ FrameEnd U o U' L ({ frames := 1, cells := 0, slots := 0, locals := 18 } : Room).cells ({ frames := 1, cells := 0, slots := 0, locals := 18 } : Room).slots) := by
  refine MetFree.of_bodySF (plainFor_of_name pn_0) hisR ?_
  intro p e s m args below meth c s₁ Bd hml0 hP hK
  obtain ⟨rfl, hZ, hh⟩ := hP
  have hx := Bd.exec
  have hby := Bd.bytes
  have hml : c.maxLocals = 8 := hml0
  have hown : s.vm.findClass "com/example/tandemcab/tandemcab/NodeQueue" = some m.cls := findClass_of_methodNamed Bd.named
  have hnm := (name_of_methodNamed Bd.named Bd.method).1
  have X0 : Stand p l e ({ frames := 1, cells := 0, slots := 0, locals := 18 } : Room) s m #[(.ref a1), (.int 2), (.double x1), (.double x2), (.int 0)] below meth c s₁ [] 0 0 := Stand.of_body Bd
  have e0 : s₁.heap = h0 := by rw [← hh, Bd.state]; rfl
  have NF := Fr.nil n0
  have KP : Keep h0 h0 [a1, tn, ts, tm, tp] := Keep.refl h0 _
  refine WP.go ?_
  refine WP.cast (ef_6t20 m a1 x1 x2) ?_
  refine WP.name ?_
  intro G hG
  refine WP.st (T' := s₁) (f' := (mkF m 61 #[.val (.ref a1), .val (.int 2), .val (.double x1), .second, .val (.double x2), .second, .val (.int 0), .unset] [(.int 0), (.double x2), (.double x1), (.int 2), (.ref a1)])) (fun t k => ?_) ?_
  · refine XS.iload X0.here hx rfl (hb hby d6_0) rfl ?_
    refine XS.ifYes X0.here hx rfl (pc0 := 2) (pc' := 54) rfl (hb hby d6_2) rfl ((if0 _ _).trans (flt (by decide : ¬ ((0 : Int32) < (0 : Int32)))).2.2.2) (by decide) (by decide) ?_
    refine XS.aloadN X0.here hx rfl (hb hby d6_54) rfl rfl ?_
    refine XS.iloadN X0.here hx rfl (hb hby d6_55) rfl ?_
    refine XS.dloadN X0.here hx rfl (hb hby d6_56) rfl ?_
    refine XS.dload X0.here hx rfl (hb hby d6_57) rfl ?_
    refine XS.iload X0.here hx rfl (hb hby d6_59) rfl ?_
    exact k
  obtain ⟨cq187, q187, q187'⟩ := E_a1.cell
  obtain ⟨_, _, ⟨T187, L187, k187, n187⟩, -, X187, ⟨Lc187, hQ187, l187, y187, z187⟩, st187⟩ := X0.privateBack hx (y := (⟨"com/example/tandemcab/tandemcab/NodeQueue", "place", "(IDDI)V"⟩ : MethodName)) hown (mvT hZ (w_41 hw)) (mvT hZ (w_42 hw)) (ownSel (y := (⟨"com/example/tandemcab/tandemcab/NodeQueue", "place", "(IDDI)V"⟩ : MethodName)) (mvT hZ (w_22 hw)) rfl (Cond.privateMethod_at (mvP hZ (w_43 hw) (args := #[]))) (mvT hZ (w_42 hw)) (by decide)) (Cond.privateMethod_at (mvP hZ (w_43 hw) (args := #[]))) (mvT hZ (w_44 hw)) (by decide) (backOf (W := 0) (rm7t12 l Z a0 hw [] a1 x1 x2 tn ts tm tp kn ks km kp nd0 nd1 nd2 s0 s1 s2 m0 m1 m2 p0 p1 p2 u_size h0 n0 Z0 E_a1 F_a1_nodes F_a1_seconds F_a1_metres F_a1_position F_a1_size V_tn V_ts V_tm V_tp g_a1 g_tn g_ts g_tm g_tp ne_a1_tn ne_a1_ts ne_a1_tm ne_a1_tp ne_tn_ts ne_tn_tm ne_tn_tp ne_ts_tm ne_ts_tp ne_tm_tp) hZ (w_44 hw) (w_2 hw) (by decide) (by decide)) (g := (mkF m 61 #[.val (.ref a1), .val (.int 2), .val (.double x1), .second, .val (.double x2), .second, .val (.int 0), .unset] [(.int 0), (.double x2), (.double x1), (.int 2), (.ref a1)])) rfl (by rw [hml]; rfl) (Steps.refl _) (a := a1) (by rw [e0]; exact q187) q187' (argsL := [(.int 2), (.double x1), (.double x2), (.int 0)]) (rest := []) (lenOf pd_2 rfl) rfl (by show 2 * 0 + _ ≤ _; exact Nat.le_of_eq rfl) (hb hby d6_61) (fun _ _ => ⟨rfl, e0, (by decide : 0 + 0 ≤ _), (by decide : 0 + 0 ≤ _)⟩)
  dsimp only [Pt.U, Pt.locs, Pt.cells, Pt.slots] at X187 l187 y187 z187 st187 hQ187
  subst l187 y187 z187
  obtain ⟨rfl, Nq187, Kq187, nF187_a1_nodes, nF187_a1_seconds, nF187_a1_metres, nF187_a1_position, nF187_a1_size, nA187_tn, nA187_ts, nA187_tm, nA187_tp⟩ := hQ187
  replace NF := Fr.app NF Nq187
  clear Nq187
  refine WP.tr st187 ?_
  clear st187
  obtain ⟨h187, e187⟩ : ∃ h, T187.heap = h := ⟨_, rfl⟩
  rw [e187] at Kq187 nF187_a1_nodes nF187_a1_seconds nF187_a1_metres nF187_a1_position nF187_a1_size nA187_tn nA187_ts nA187_tm nA187_tp
  replace E_a1 := E_a1.keep Kq187
  clear F_a1_nodes
  clear F_a1_seconds
  clear F_a1_metres
  clear F_a1_position
  clear F_a1_size
  clear V_tn
  clear V_ts
  clear V_tm
  clear V_tp
  replace Z0 := Nat.le_trans Z0 Kq187.1
  replace KP := KP.trans Kq187 (allS (Or.inl (List.mem_of_getElem? (i := 0) rfl)) (allS (Or.inl (List.mem_of_getElem? (i := 1) rfl)) (allS (Or.inl (List.mem_of_getElem? (i := 2) rfl)) (allS (Or.inl (List.mem_of_getElem? (i := 3) rfl)) (allS (Or.inl (List.mem_of_getElem? (i := 4) rfl)) all0)))))
  clear Kq187
  have F_a1_nodes := nF187_a1_nodes
  clear nF187_a1_nodes
  have F_a1_seconds := nF187_a1_seconds
  clear nF187_a1_seconds
  have F_a1_metres := nF187_a1_metres
  clear nF187_a1_metres
  have F_a1_position := nF187_a1_position
  clear nF187_a1_position
  have F_a1_size := nF187_a1_size
  clear nF187_a1_size
  have V_tn := nA187_tn
  clear nA187_tn
  have V_ts := nA187_ts
  clear nA187_ts
  have V_tm := nA187_tm
  clear nA187_tm
  have V_tp := nA187_tp
  clear nA187_tp
  show WP p.tables e below _ T187 (mkF m 64 #[.val (.ref a1), .val (.int 2), .val (.double x1), .second, .val (.double x2), .second, .val (.int 0), .unset] [])
  subst hG
  obtain ⟨fs, hr, hrun, hended, hW, hsame⟩ := X187.leave (v := none) (fun _ => rfl)
  refine WP.fin ⟨_, _, ?_, hrun, hended, _, _, rfl, ?_, ⟨_, rfl⟩, hW, hsame.mono (by decide) (by decide)⟩
  · exact X187.returnOut hx Bd.returns (hb hby d6_64) hr
  · show Q6t20 Z a1 x1 x2 tn ts tm tp kn ks km kp nd0 nd1 nd2 s0 s1 s2 m0 m1 m2 p0 p1 p2 u_size h0 n0 _ T187.heap _
    rw [e187]
    exact ⟨rfl, NF, KP, F_a1_nodes, F_a1_seconds, F_a1_metres, F_a1_position, F_a1_size, V_tn, V_ts, V_tm, V_tp⟩
theorem ef_5t19 (m : MethodId) (z0 : Addr) (z2 : UInt64) (z3 : UInt64) : entryFrame m #[(.ref z0), (.int 2), (.double z2), (.double z3)] 7 = mkF m 0 #[.val (.ref z0), .val (.int 2), .val (.double z2), .second, .val (.double z3), .second, .unset] [] := by
  all_goals first | (simp [entryFrame, mkF, argsToLocals, Value.category]; done) | rfl
def Q5t19 (Z : State) (a1 : Addr) (x1 : UInt64) (x2 : UInt64) (tn : Addr) (ts : Addr) (tm : Addr) (tp : Addr) (kn : ClassId) (ks : ClassId) (km : ClassId) (kp : ClassId) (nd0 : Value) (nd1 : Value) (nd2 : Value) (s0 : Value) (s1 : Value) (s2 : Value) (m0 : Value) (m1 : Value) (m2 : Value) (p0 : Value) (p1 : Value) (h0 : Heap) (n0 : Nat) (v : Option Value) (h : Heap) (L : List Loc) : Prop := v = none ∧ Fr n0 L ∧ Keep h0 h [a1, tn, ts, tm, tp] ∧ Fld Z h a1 "com/example/tandemcab/tandemcab/NodeQueue" "nodes" "[I" (.ref tn) ∧ Fld Z h a1 "com/example/tandemcab/tandemcab/NodeQueue" "seconds" "[D" (.ref ts) ∧ Fld Z h a1 "com/example/tandemcab/tandemcab/NodeQueue" "metres" "[D" (.ref tm) ∧ Fld Z h a1 "com/example/tandemcab/tandemcab/NodeQueue" "position" "[I" (.ref tp) ∧ Fld Z h a1 "com/example/tandemcab/tandemcab/NodeQueue" "size" "I" (.int 1) ∧ (Arv Z h tn kn .int (3 : Int32) [(.int 2), nd1, nd2] (.int 0)) ∧ (Arv Z h ts ks .double (3 : Int32) [(.double x1), s1, s2] (.double 0)) ∧ (Arv Z h tm km .double (3 : Int32) [(.double x2), m1, m2] (.double 0)) ∧ (Arv Z h tp kp .int (3 : Int32) [p0, p1, (.int 1)] (.int 0))
set_option maxRecDepth 65536 in
set_option maxHeartbeats 40000000 in
theorem rm5t19 (l : Launch) (Z : State) (a0 : Array Value) (hw : ∀ d ∈ tables_1, d.before a0 Z = true) (wsC : List Jvm.Cond) (a1 : Addr) (x1 : UInt64) (x2 : UInt64) (tn : Addr) (ts : Addr) (tm : Addr) (tp : Addr) (kn : ClassId) (ks : ClassId) (km : ClassId) (kp : ClassId) (nd0 : Value) (nd1 : Value) (nd2 : Value) (s0 : Value) (s1 : Value) (s2 : Value) (m0 : Value) (m1 : Value) (m2 : Value) (p0 : Value) (p1 : Value) (h0 : Heap) (n0 : Nat) (Z0 : n0 ≤ h0.size) (E_a1 : Exa Z h0 a1 "com/example/tandemcab/tandemcab/NodeQueue") (F_a1_nodes : Fld Z h0 a1 "com/example/tandemcab/tandemcab/NodeQueue" "nodes" "[I" (.ref tn)) (F_a1_seconds : Fld Z h0 a1 "com/example/tandemcab/tandemcab/NodeQueue" "seconds" "[D" (.ref ts)) (F_a1_metres : Fld Z h0 a1 "com/example/tandemcab/tandemcab/NodeQueue" "metres" "[D" (.ref tm)) (F_a1_position : Fld Z h0 a1 "com/example/tandemcab/tandemcab/NodeQueue" "position" "[I" (.ref tp)) (F_a1_size : Fld Z h0 a1 "com/example/tandemcab/tandemcab/NodeQueue" "size" "I" (.int 0)) (V_tn : Arv Z h0 tn kn .int (3 : Int32) [nd0, nd1, nd2] (.int 0)) (V_ts : Arv Z h0 ts ks .double (3 : Int32) [s0, s1, s2] (.double 0)) (V_tm : Arv Z h0 tm km .double (3 : Int32) [m0, m1, m2] (.double 0)) (V_tp : Arv Z h0 tp kp .int (3 : Int32) [p0, p1, (.int 0)] (.int 0)) (g_a1 : n0 ≤ a1) (g_tn : n0 ≤ tn) (g_ts : n0 ≤ ts) (g_tm : n0 ≤ tm) (g_tp : n0 ≤ tp) (ne_a1_tn : a1 ≠ tn) (ne_a1_ts : a1 ≠ ts) (ne_a1_tm : a1 ≠ tm) (ne_a1_tp : a1 ≠ tp) (ne_tn_ts : tn ≠ ts) (ne_tn_tm : tn ≠ tm) (ne_tn_tp : tn ≠ tp) (ne_ts_tm : ts ≠ tm) (ne_ts_tp : ts ≠ tp) (ne_tm_tp : tm ≠ tp) :
    MetFree l (⟨"com/example/tandemcab/tandemcab/NodeQueue", "offer", "(IDD)V"⟩ : MethodName) (head1 (Jvm.Cond.code (⟨"com/example/tandemcab/tandemcab/NodeQueue", "offer", "(IDD)V"⟩ : MethodName) prog_49_method_5_code 7 none :: wsC) ({ frames := 2, cells := 0, slots := 0, locals := 37 } : Room)) (fun a U => a = #[(.ref a1), (.int 2), (.double x1), (.double x2)] ∧ Z.Warmed39 U.vm ∧ U.heap = h0) (fun _ _ _ _ _ => True) (fun _ U o U' => ∃ v L, o = .returned v ∧ Q5t19 Z a1 x1 x2 tn ts tm tp kn ks km kp nd0 nd1 nd2 s0 s1 s2 m0 m1 m2 p0 p1 h0 n0 v U'.heap L ∧ FrameEnd U o U' L ({ frames := 2, cells := 0, slots := 0, locals := 37 } : Room).cells ({ frames := 2, cells := 0, slots := 0, locals := 37 } : Room).slots) := by
  refine MetFree.of_bodySF (plainFor_of_name pn_0) hisR ?_
  intro p e s m args below meth c s₁ Bd hml0 hP hK
  obtain ⟨rfl, hZ, hh⟩ := hP
  have hx := Bd.exec
  have hby := Bd.bytes
  have hml : c.maxLocals = 7 := hml0
  have hown : s.vm.findClass "com/example/tandemcab/tandemcab/NodeQueue" = some m.cls := findClass_of_methodNamed Bd.named
  have hnm := (name_of_methodNamed Bd.named Bd.method).1
  have X0 : Stand p l e ({ frames := 2, cells := 0, slots := 0, locals := 37 } : Room) s m #[(.ref a1), (.int 2), (.double x1), (.double x2)] below meth c s₁ [] 0 0 := Stand.of_body Bd
  have e0 : s₁.heap = h0 := by rw [← hh, Bd.state]; rfl
  have NF := Fr.nil n0
  have KP : Keep h0 h0 [a1, tn, ts, tm, tp] := Keep.refl h0 _
  refine WP.go ?_
  refine WP.cast (ef_5t19 m a1 x1 x2) ?_
  refine WP.name ?_
  intro G hG
  refine WP.st (T' := s₁) (f' := (mkF m 1 #[.val (.ref a1), .val (.int 2), .val (.double x1), .second, .val (.double x2), .second, .unset] [(.ref a1)])) (fun t k => ?_) ?_
  · refine XS.aloadN X0.here hx rfl (hb hby d5_0) rfl rfl ?_
    exact k
  obtain ⟨T188, X188, e188, st188⟩ := getF X0 hx hZ hown (host := "") (Or.inl (w_17 hw)) Via.refl e0 F_a1_position (g := (mkF m 1 #[.val (.ref a1), .val (.int 2), .val (.double x1), .second, .val (.double x2), .second, .unset] [(.ref a1)])) rfl rfl (hb hby d5_1)
  refine WP.st st188 ?_
  clear st188
  show WP p.tables e below _ T188 (mkF m 4 #[.val (.ref a1), .val (.int 2), .val (.double x1), .second, .val (.double x2), .second, .unset] [(.ref tp)])
  refine WP.st (T' := T188) (f' := (mkF m 5 #[.val (.ref a1), .val (.int 2), .val (.double x1), .second, .val (.double x2), .second, .unset] [(.int 2), (.ref tp)])) (fun t k => ?_) ?_
  · refine XS.iloadN X188.here hx rfl (hb hby d5_4) rfl ?_
    exact k
  obtain ⟨cl189, Ar189, hin189, hat189, -⟩ := V_tp.rd (j := (2 : Int32)) ⟨by decide, by decide⟩
  replace hat189 : cl189.slots[((2 : Int32)).toNatClampNeg]? = some (.int 0) := hat189
  refine WP.st (T' := T188) (f' := (mkF m 8 #[.val (.ref a1), .val (.int 2), .val (.double x1), .second, .val (.double x2), .second, .unset] [(.int ((0 : Int32) - (1 : Int32)))])) (fun t k => ?_) ?_
  · refine X188.iaload hx (j := (2 : Int32)) (v := (.int 0)) (by rw [e188]; exact Ar189.1) (State.isArrayOf_alike hZ.alike Ar189.2.1) Ar189.2.2 hin189 hat189 (g := (mkF m 5 #[.val (.ref a1), .val (.int 2), .val (.double x1), .second, .val (.double x2), .second, .unset] [(.int 2), (.ref tp)])) rfl rfl (hb hby d5_5) _ ?_
    refine XS.iconst X188.here hx rfl (hb hby d5_6) ?_
    refine XS.isub X188.here hx rfl (hb hby d5_7) rfl ?_
    exact k
  rw [show ((0 : Int32) - (1 : Int32)) = (-1 : Int32) from by decide]
  show WP p.tables e below _ T188 (mkF m 8 #[.val (.ref a1), .val (.int 2), .val (.double x1), .second, .val (.double x2), .second, .unset] [(.int (-1))])
  refine WP.st (T' := T188) (f' := (mkF m 22 #[.val (.ref a1), .val (.int 2), .val (.double x1), .second, .val (.double x2), .second, .val (.int (-1))] [(.ref a1), (.ref a1), (.double x2), (.double x1), (.int 2), (.ref a1)])) (fun t k => ?_) ?_
  · refine XS.istore X188.here hx rfl (hb hby d5_8) rfl (l' := #[.val (.ref a1), .val (.int 2), .val (.double x1), .second, .val (.double x2), .second, .val (.int (-1))]) rfl ?_
    refine XS.iload X188.here hx rfl (hb hby d5_10) rfl ?_
    refine XS.ifNo X188.here hx rfl (hb hby d5_12) rfl ((if0 _ _).trans (tlt (by decide : (-1 : Int32) < (0 : Int32))).2.1) ?_
    refine XS.aloadN X188.here hx rfl (hb hby d5_15) rfl rfl ?_
    refine XS.iloadN X188.here hx rfl (hb hby d5_16) rfl ?_
    refine XS.dloadN X188.here hx rfl (hb hby d5_17) rfl ?_
    refine XS.dload X188.here hx rfl (hb hby d5_18) rfl ?_
    refine XS.aloadN X188.here hx rfl (hb hby d5_20) rfl rfl ?_
    show Steps p.tables e below (T188.setTop (mkF m 21 #[.val (.ref a1), .val (.int 2), .val (.double x1), .second, .val (.double x2), .second, .val (.int (-1))] [(.ref a1), (.double x2), (.double x1), (.int 2), (.ref a1)])) t
    refine XS.dup X188.here hx rfl (hb hby d5_21) rfl rfl ?_
    exact k
  obtain ⟨T190, X190, e190, st190⟩ := getF X188 hx hZ hown (host := "") (Or.inl (w_24 hw)) Via.refl e188 F_a1_size (g := (mkF m 22 #[.val (.ref a1), .val (.int 2), .val (.double x1), .second, .val (.double x2), .second, .val (.int (-1))] [(.ref a1), (.ref a1), (.double x2), (.double x1), (.int 2), (.ref a1)])) rfl rfl (hb hby d5_22)
  refine WP.st st190 ?_
  clear st190
  show WP p.tables e below _ T190 (mkF m 25 #[.val (.ref a1), .val (.int 2), .val (.double x1), .second, .val (.double x2), .second, .val (.int (-1))] [(.int 0), (.ref a1), (.double x2), (.double x1), (.int 2), (.ref a1)])
  refine WP.st (T' := T190) (f' := (mkF m 28 #[.val (.ref a1), .val (.int 2), .val (.double x1), .second, .val (.double x2), .second, .val (.int (-1))] [(.int ((0 : Int32) + (1 : Int32))), (.ref a1), (.int 0), (.double x2), (.double x1), (.int 2), (.ref a1)])) (fun t k => ?_) ?_
  · refine XS.dupX1 X190.here hx rfl (hb hby d5_25) rfl rfl rfl ?_
    refine XS.iconst X190.here hx rfl (hb hby d5_26) ?_
    refine XS.iadd X190.here hx rfl (hb hby d5_27) rfl ?_
    exact k
  rw [show ((0 : Int32) + (1 : Int32)) = (1 : Int32) from by decide]
  show WP p.tables e below _ T190 (mkF m 28 #[.val (.ref a1), .val (.int 2), .val (.double x1), .second, .val (.double x2), .second, .val (.int (-1))] [(.int 1), (.ref a1), (.int 0), (.double x2), (.double x1), (.int 2), (.ref a1)])
  obtain ⟨T191, h191, X191, e191, W191, st191⟩ := putF X190 hx hZ hown (host := "") (Or.inl (w_24 hw)) Via.refl e190 F_a1_size E_a1 (Or.inl (w_25 hw)) (w_1 hw) (ty := .int) (by decide) rfl rfl (g := (mkF m 28 #[.val (.ref a1), .val (.int 2), .val (.double x1), .second, .val (.double x2), .second, .val (.int (-1))] [(.int 1), (.ref a1), (.int 0), (.double x2), (.double x1), (.int 2), (.ref a1)])) rfl rfl (hb hby d5_28)
  refine WP.st st191 ?_
  clear st191
  replace E_a1 := E_a1.wr W191
  replace F_a1_nodes := F_a1_nodes.other W191 (Or.inr (sn_16 hw))
  replace F_a1_seconds := F_a1_seconds.other W191 (Or.inr (sn_17 hw))
  replace F_a1_metres := F_a1_metres.other W191 (Or.inr (sn_18 hw))
  replace F_a1_position := F_a1_position.other W191 (Or.inr (sn_19 hw))
  replace F_a1_size := F_a1_size.same W191
  replace V_tn := V_tn.other W191 (Ne.symm ne_a1_tn)
  replace V_ts := V_ts.other W191 (Ne.symm ne_a1_ts)
  replace V_tm := V_tm.other W191 (Ne.symm ne_a1_tm)
  replace V_tp := V_tp.other W191 (Ne.symm ne_a1_tp)
  replace Z0 := Nat.le_trans Z0 (Keep.of_wr W191).1
  replace KP := KP.wr W191 (Or.inl (List.mem_of_getElem? (i := 0) rfl))
  replace NF := Fr.snoc X191 NF g_a1
  clear W191
  show WP p.tables e below _ T191 (mkF m 31 #[.val (.ref a1), .val (.int 2), .val (.double x1), .second, .val (.double x2), .second, .val (.int (-1))] [(.int 0), (.double x2), (.double x1), (.int 2), (.ref a1)])
  obtain ⟨cq192, q192, q192'⟩ := E_a1.cell
  obtain ⟨_, _, ⟨T192, L192, k192, n192⟩, -, X192, ⟨Lc192, hQ192, l192, y192, z192⟩, st192⟩ := X191.privateBack hx (y := (⟨"com/example/tandemcab/tandemcab/NodeQueue", "up", "(IDDI)V"⟩ : MethodName)) hown (mvT hZ (w_37 hw)) (mvT hZ (w_38 hw)) (ownSel (y := (⟨"com/example/tandemcab/tandemcab/NodeQueue", "up", "(IDDI)V"⟩ : MethodName)) (mvT hZ (w_22 hw)) rfl (Cond.privateMethod_at (mvP hZ (w_39 hw) (args := #[]))) (mvT hZ (w_38 hw)) (by decide)) (Cond.privateMethod_at (mvP hZ (w_39 hw) (args := #[]))) (mvT hZ (w_40 hw)) (by decide) (backOf (W := 0) (rm6t20 l Z a0 hw [] a1 x1 x2 tn ts tm tp kn ks km kp nd0 nd1 nd2 s0 s1 s2 m0 m1 m2 p0 p1 (.int 0) (1 : Int32) h191 n0 Z0 E_a1 F_a1_nodes F_a1_seconds F_a1_metres F_a1_position F_a1_size V_tn V_ts V_tm V_tp g_a1 g_tn g_ts g_tm g_tp ne_a1_tn ne_a1_ts ne_a1_tm ne_a1_tp ne_tn_ts ne_tn_tm ne_tn_tp ne_ts_tm ne_ts_tp ne_tm_tp) hZ (w_40 hw) (w_2 hw) (by decide) (by decide)) (g := (mkF m 31 #[.val (.ref a1), .val (.int 2), .val (.double x1), .second, .val (.double x2), .second, .val (.int (-1))] [(.int 0), (.double x2), (.double x1), (.int 2), (.ref a1)])) rfl (by rw [hml]; rfl) (Steps.refl _) (a := a1) (by rw [e191]; exact q192) q192' (argsL := [(.int 2), (.double x1), (.double x2), (.int 0)]) (rest := []) (lenOf pd_2 rfl) rfl (by show 2 * 0 + _ ≤ _; exact Nat.le_of_eq rfl) (hb hby d5_31) (fun _ _ => ⟨rfl, e191, (by decide : 0 + 0 ≤ _), (by decide : 0 + 0 ≤ _)⟩)
  dsimp only [Pt.U, Pt.locs, Pt.cells, Pt.slots] at X192 l192 y192 z192 st192 hQ192
  subst l192 y192 z192
  obtain ⟨rfl, Nq192, Kq192, nF192_a1_nodes, nF192_a1_seconds, nF192_a1_metres, nF192_a1_position, nF192_a1_size, nA192_tn, nA192_ts, nA192_tm, nA192_tp⟩ := hQ192
  replace NF := Fr.app NF Nq192
  clear Nq192
  refine WP.tr st192 ?_
  clear st192
  obtain ⟨h192, e192⟩ : ∃ h, T192.heap = h := ⟨_, rfl⟩
  rw [e192] at Kq192 nF192_a1_nodes nF192_a1_seconds nF192_a1_metres nF192_a1_position nF192_a1_size nA192_tn nA192_ts nA192_tm nA192_tp
  replace E_a1 := E_a1.keep Kq192
  clear F_a1_nodes
  clear F_a1_seconds
  clear F_a1_metres
  clear F_a1_position
  clear F_a1_size
  clear V_tn
  clear V_ts
  clear V_tm
  clear V_tp
  replace Z0 := Nat.le_trans Z0 Kq192.1
  replace KP := KP.trans Kq192 (allS (Or.inl (List.mem_of_getElem? (i := 0) rfl)) (allS (Or.inl (List.mem_of_getElem? (i := 1) rfl)) (allS (Or.inl (List.mem_of_getElem? (i := 2) rfl)) (allS (Or.inl (List.mem_of_getElem? (i := 3) rfl)) (allS (Or.inl (List.mem_of_getElem? (i := 4) rfl)) all0)))))
  clear Kq192
  have F_a1_nodes := nF192_a1_nodes
  clear nF192_a1_nodes
  have F_a1_seconds := nF192_a1_seconds
  clear nF192_a1_seconds
  have F_a1_metres := nF192_a1_metres
  clear nF192_a1_metres
  have F_a1_position := nF192_a1_position
  clear nF192_a1_position
  have F_a1_size := nF192_a1_size
  clear nF192_a1_size
  have V_tn := nA192_tn
  clear nA192_tn
  have V_ts := nA192_ts
  clear nA192_ts
  have V_tm := nA192_tm
  clear nA192_tm
  have V_tp := nA192_tp
  clear nA192_tp
  show WP p.tables e below _ T192 (mkF m 34 #[.val (.ref a1), .val (.int 2), .val (.double x1), .second, .val (.double x2), .second, .val (.int (-1))] [])
  refine WP.st (T' := T192) (f' := (mkF m 83 #[.val (.ref a1), .val (.int 2), .val (.double x1), .second, .val (.double x2), .second, .val (.int (-1))] [])) (fun t k => ?_) ?_
  · refine XS.goto X192.here hx rfl (pc0 := 34) (pc' := 83) rfl (hb hby d5_34) (by decide) (by decide) ?_
    exact k
  subst hG
  obtain ⟨fs, hr, hrun, hended, hW, hsame⟩ := X192.leave (v := none) (fun _ => rfl)
  refine WP.fin ⟨_, _, ?_, hrun, hended, _, _, rfl, ?_, ⟨_, rfl⟩, hW, hsame.mono (by decide) (by decide)⟩
  · exact X192.returnOut hx Bd.returns (hb hby d5_83) hr
  · show Q5t19 Z a1 x1 x2 tn ts tm tp kn ks km kp nd0 nd1 nd2 s0 s1 s2 m0 m1 m2 p0 p1 h0 n0 _ T192.heap _
    rw [e192]
    exact ⟨rfl, NF, KP, F_a1_nodes, F_a1_seconds, F_a1_metres, F_a1_position, F_a1_size, V_tn, V_ts, V_tm, V_tp⟩
theorem ef_3t21 (m : MethodId) (z0 : Addr) : entryFrame m #[(.ref z0)] 2 = mkF m 0 #[.val (.ref z0), .unset] [] := by
  all_goals first | (simp [entryFrame, mkF, argsToLocals, Value.category]; done) | rfl
theorem d3_10 : decode prog_49_method_3_code 10 = .ok (.aload_n 0, 1) := by decide +kernel
theorem d3_11 : decode prog_49_method_3_code 11 = .ok (.getfield 20, 3) := by decide +kernel
theorem d3_14 : decode prog_49_method_3_code 14 = .ok (.aload_n 0, 1) := by decide +kernel
theorem d3_15 : decode prog_49_method_3_code 15 = .ok (.getfield 7, 3) := by decide +kernel
theorem d3_18 : decode prog_49_method_3_code 18 = .ok (.iload_n 1, 1) := by decide +kernel
theorem d3_19 : decode prog_49_method_3_code 19 = .ok (.iaload, 1) := by decide +kernel
theorem d3_20 : decode prog_49_method_3_code 20 = .ok (.iconst 0, 1) := by decide +kernel
theorem d3_21 : decode prog_49_method_3_code 21 = .ok (.iastore, 1) := by decide +kernel
theorem d3_22 : decode prog_49_method_3_code 22 = .ok (.iinc 1 1, 3) := by decide +kernel
theorem d3_25 : decode prog_49_method_3_code 25 = .ok (.goto (-23), 3) := by decide +kernel
def Q3t21 (Z : State) (a1 : Addr) (tn : Addr) (ts : Addr) (tm : Addr) (tp : Addr) (kn : ClassId) (ks : ClassId) (km : ClassId) (kp : ClassId) (nd1 : Value) (nd2 : Value) (s0 : Value) (s1 : Value) (s2 : Value) (m0 : Value) (m1 : Value) (m2 : Value) (p0 : Value) (p1 : Value) (p2 : Value) (h0 : Heap) (n0 : Nat) (v : Option Value) (h : Heap) (L : List Loc) : Prop := v = none ∧ Fr n0 L ∧ Keep h0 h [a1, tn, ts, tm, tp] ∧ Fld Z h a1 "com/example/tandemcab/tandemcab/NodeQueue" "nodes" "[I" (.ref tn) ∧ Fld Z h a1 "com/example/tandemcab/tandemcab/NodeQueue" "seconds" "[D" (.ref ts) ∧ Fld Z h a1 "com/example/tandemcab/tandemcab/NodeQueue" "metres" "[D" (.ref tm) ∧ Fld Z h a1 "com/example/tandemcab/tandemcab/NodeQueue" "position" "[I" (.ref tp) ∧ Fld Z h a1 "com/example/tandemcab/tandemcab/NodeQueue" "size" "I" (.int 0) ∧ (Arv Z h tn kn .int (3 : Int32) [(.int 2), nd1, nd2] (.int 0)) ∧ (Arv Z h ts ks .double (3 : Int32) [s0, s1, s2] (.double 0)) ∧ (Arv Z h tm km .double (3 : Int32) [m0, m1, m2] (.double 0)) ∧ (Arv Z h tp kp .int (3 : Int32) [p0, p1, (.int 0)] (.int 0))
set_option maxRecDepth 65536 in
set_option maxHeartbeats 40000000 in
theorem rm3t21 (l : Launch) (Z : State) (a0 : Array Value) (hw : ∀ d ∈ tables_1, d.before a0 Z = true) (wsC : List Jvm.Cond) (a1 : Addr) (tn : Addr) (ts : Addr) (tm : Addr) (tp : Addr) (kn : ClassId) (ks : ClassId) (km : ClassId) (kp : ClassId) (nd1 : Value) (nd2 : Value) (s0 : Value) (s1 : Value) (s2 : Value) (m0 : Value) (m1 : Value) (m2 : Value) (p0 : Value) (p1 : Value) (p2 : Value) (h0 : Heap) (n0 : Nat) (Z0 : n0 ≤ h0.size) (E_a1 : Exa Z h0 a1 "com/example/tandemcab/tandemcab/NodeQueue") (F_a1_nodes : Fld Z h0 a1 "com/example/tandemcab/tandemcab/NodeQueue" "nodes" "[I" (.ref tn)) (F_a1_seconds : Fld Z h0 a1 "com/example/tandemcab/tandemcab/NodeQueue" "seconds" "[D" (.ref ts)) (F_a1_metres : Fld Z h0 a1 "com/example/tandemcab/tandemcab/NodeQueue" "metres" "[D" (.ref tm)) (F_a1_position : Fld Z h0 a1 "com/example/tandemcab/tandemcab/NodeQueue" "position" "[I" (.ref tp)) (F_a1_size : Fld Z h0 a1 "com/example/tandemcab/tandemcab/NodeQueue" "size" "I" (.int 1)) (V_tn : Arv Z h0 tn kn .int (3 : Int32) [(.int 2), nd1, nd2] (.int 0)) (V_ts : Arv Z h0 ts ks .double (3 : Int32) [s0, s1, s2] (.double 0)) (V_tm : Arv Z h0 tm km .double (3 : Int32) [m0, m1, m2] (.double 0)) (V_tp : Arv Z h0 tp kp .int (3 : Int32) [p0, p1, p2] (.int 0)) (g_a1 : n0 ≤ a1) (g_tn : n0 ≤ tn) (g_ts : n0 ≤ ts) (g_tm : n0 ≤ tm) (g_tp : n0 ≤ tp) (ne_a1_tn : a1 ≠ tn) (ne_a1_ts : a1 ≠ ts) (ne_a1_tm : a1 ≠ tm) (ne_a1_tp : a1 ≠ tp) (ne_tn_ts : tn ≠ ts) (ne_tn_tm : tn ≠ tm) (ne_tn_tp : tn ≠ tp) (ne_ts_tm : ts ≠ tm) (ne_ts_tp : ts ≠ tp) (ne_tm_tp : tm ≠ tp) :
    MetFree l (⟨"com/example/tandemcab/tandemcab/NodeQueue", "clear", "()V"⟩ : MethodName) (head1 (Jvm.Cond.code (⟨"com/example/tandemcab/tandemcab/NodeQueue", "clear", "()V"⟩ : MethodName) prog_49_method_3_code 2 none :: wsC) ({ frames := 0, cells := 0, slots := 0, locals := 0 } : Room)) (fun a U => a = #[(.ref a1)] ∧ Z.Warmed39 U.vm ∧ U.heap = h0) (fun _ _ _ _ _ => True) (fun _ U o U' => ∃ v L, o = .returned v ∧ Q3t21 Z a1 tn ts tm tp kn ks km kp nd1 nd2 s0 s1 s2 m0 m1 m2 p0 p1 p2 h0 n0 v U'.heap L ∧ FrameEnd U o U' L ({ frames := 0, cells := 0, slots := 0, locals := 0 } : Room).cells ({ frames := 0, cells := 0, slots := 0, locals := 0 } : Room).slots) := by
  refine MetFree.of_bodySF (plainFor_of_name pn_0) hisR ?_
  intro p e s m args below meth c s₁ Bd hml0 hP hK
  obtain ⟨rfl, hZ, hh⟩ := hP
  have hx := Bd.exec
  have hby := Bd.bytes
  have hml : c.maxLocals = 2 := hml0
  have hown : s.vm.findClass "com/example/tandemcab/tandemcab/NodeQueue" = some m.cls := findClass_of_methodNamed Bd.named
  have hnm := (name_of_methodNamed Bd.named Bd.method).1
  have X0 : Stand p l e ({ frames := 0, cells := 0, slots := 0, locals := 0 } : Room) s m #[(.ref a1)] below meth c s₁ [] 0 0 := Stand.of_body Bd
  have e0 : s₁.heap = h0 := by rw [← hh, Bd.state]; rfl
  have NF := Fr.nil n0
  have KP : Keep h0 h0 [a1, tn, ts, tm, tp] := Keep.refl h0 _
  refine WP.go ?_
  refine WP.cast (ef_3t21 m a1) ?_
  refine WP.name ?_
  intro G hG
  refine WP.st (T' := s₁) (f' := (mkF m 4 #[.val (.ref a1), .val (.int 0)] [(.ref a1), (.int 0)])) (fun t k => ?_) ?_
  · refine XS.iconst X0.here hx rfl (hb hby d3_0) ?_
    refine XS.istoreN X0.here hx rfl (hb hby d3_1) rfl (l' := #[.val (.ref a1), .val (.int 0)]) rfl ?_
    refine XS.iloadN X0.here hx rfl (hb hby d3_2) rfl ?_
    refine XS.aloadN X0.here hx rfl (hb hby d3_3) rfl rfl ?_
    exact k
  obtain ⟨T194, X194, e194, st194⟩ := getF X0 hx hZ hown (host := "") (Or.inl (w_24 hw)) Via.refl e0 F_a1_size (g := (mkF m 4 #[.val (.ref a1), .val (.int 0)] [(.ref a1), (.int 0)])) rfl rfl (hb hby d3_4)
  refine WP.st st194 ?_
  clear st194
  show WP p.tables e below _ T194 (mkF m 7 #[.val (.ref a1), .val (.int 0)] [(.int 1), (.int 0)])
  refine WP.st (T' := T194) (f' := (mkF m 11 #[.val (.ref a1), .val (.int 0)] [(.ref a1)])) (fun t k => ?_) ?_
  · refine XS.icmpNo X194.here hx rfl (hb hby d3_7) rfl (tlt (by decide : (0 : Int32) < (1 : Int32))).2.1 ?_
    refine XS.aloadN X194.here hx rfl (hb hby d3_10) rfl rfl ?_
    exact k
  obtain ⟨T195, X195, e195, st195⟩ := getF X194 hx hZ hown (host := "") (Or.inl (w_17 hw)) Via.refl e194 F_a1_position (g := (mkF m 11 #[.val (.ref a1), .val (.int 0)] [(.ref a1)])) rfl rfl (hb hby d3_11)
  refine WP.st st195 ?_
  clear st195
  show WP p.tables e below _ T195 (mkF m 14 #[.val (.ref a1), .val (.int 0)] [(.ref tp)])
  refine WP.st (T' := T195) (f' := (mkF m 15 #[.val (.ref a1), .val (.int 0)] [(.ref a1), (.ref tp)])) (fun t k => ?_) ?_
  · refine XS.aloadN X195.here hx rfl (hb hby d3_14) rfl rfl ?_
    exact k
  obtain ⟨T196, X196, e196, st196⟩ := getF X195 hx hZ hown (host := "") (Or.inl (w_10 hw)) Via.refl e195 F_a1_nodes (g := (mkF m 15 #[.val (.ref a1), .val (.int 0)] [(.ref a1), (.ref tp)])) rfl rfl (hb hby d3_15)
  refine WP.st st196 ?_
  clear st196
  show WP p.tables e below _ T196 (mkF m 18 #[.val (.ref a1), .val (.int 0)] [(.ref tn), (.ref tp)])
  refine WP.st (T' := T196) (f' := (mkF m 19 #[.val (.ref a1), .val (.int 0)] [(.int 0), (.ref tn), (.ref tp)])) (fun t k => ?_) ?_
  · refine XS.iloadN X196.here hx rfl (hb hby d3_18) rfl ?_
    exact k
  obtain ⟨cl197, Ar197, hin197, hat197, -⟩ := V_tn.rd (j := (0 : Int32)) ⟨by decide, by decide⟩
  replace hat197 : cl197.slots[((0 : Int32)).toNatClampNeg]? = some (.int 2) := hat197
  refine WP.st (T' := T196) (f' := (mkF m 21 #[.val (.ref a1), .val (.int 0)] [(.int 0), (.int 2), (.ref tp)])) (fun t k => ?_) ?_
  · refine X196.iaload hx (j := (0 : Int32)) (v := (.int 2)) (by rw [e196]; exact Ar197.1) (State.isArrayOf_alike hZ.alike Ar197.2.1) Ar197.2.2 hin197 hat197 (g := (mkF m 19 #[.val (.ref a1), .val (.int 0)] [(.int 0), (.ref tn), (.ref tp)])) rfl rfl (hb hby d3_19) _ ?_
    refine XS.iconst X196.here hx rfl (hb hby d3_20) ?_
    exact k
  obtain ⟨cl198, Ar198, q198, S198, N198, H198, G198⟩ := V_tp
  have hin198 : ¬ ((2 : Int32) < 0 ∨ cl198.slots.size ≤ ((2 : Int32)).toNatClampNeg) := inb_of S198 ⟨by decide, by decide⟩
  obtain ⟨T199, h199, X199, e199, W199, st199⟩ := stI X196 hx hZ e196 Ar198 (j := (2 : Int32)) hin198 (g := (mkF m 21 #[.val (.ref a1), .val (.int 0)] [(.int 0), (.int 2), (.ref tp)])) rfl rfl (hb hby d3_21)
  refine WP.st st199 ?_
  clear st199
  have Vn : Arv Z h199 tp kp .int (3 : Int32) [p0, p1, (.int 0)] (.int 0) := Arv.set Ar198 q198 S198 N198 H198 G198 rfl W199 2 rfl (Nat.le_of_ble_eq_true rfl)
  replace E_a1 := E_a1.wr W199
  replace F_a1_nodes := F_a1_nodes.other W199 (Or.inl ne_a1_tp)
  replace F_a1_seconds := F_a1_seconds.other W199 (Or.inl ne_a1_tp)
  replace F_a1_metres := F_a1_metres.other W199 (Or.inl ne_a1_tp)
  replace F_a1_position := F_a1_position.other W199 (Or.inl ne_a1_tp)
  replace F_a1_size := F_a1_size.other W199 (Or.inl ne_a1_tp)
  replace V_tn := V_tn.other W199 ne_tn_tp
  replace V_ts := V_ts.other W199 ne_ts_tp
  replace V_tm := V_tm.other W199 ne_tm_tp
  replace Z0 := Nat.le_trans Z0 (Keep.of_wr W199).1
  replace KP := KP.wr W199 (Or.inl (List.mem_of_getElem? (i := 4) rfl))
  replace V_tp := Vn
  replace NF := Fr.snoc X199 NF g_tp
  clear W199 hin198 q198 S198 N198 H198 G198 Ar198
  show WP p.tables e below _ T199 (mkF m 22 #[.val (.ref a1), .val (.int 0)] [])
  refine WP.st (T' := T199) (f' := (mkF m 25 #[.val (.ref a1), .val (.int ((0 : Int32) + (1 : Int32)))] [])) (fun t k => ?_) ?_
  · refine XS.iinc X199.here hx rfl (hb hby d3_22) rfl (l' := #[.val (.ref a1), .val (.int ((0 : Int32) + (1 : Int32)))]) rfl ?_
    exact k
  rw [show ((0 : Int32) + (1 : Int32)) = (1 : Int32) from by decide]
  show WP p.tables e below _ T199 (mkF m 25 #[.val (.ref a1), .val (.int 1)] [])
  refine WP.st (T' := T199) (f' := (mkF m 4 #[.val (.ref a1), .val (.int 1)] [(.ref a1), (.int 1)])) (fun t k => ?_) ?_
  · refine XS.goto X199.here hx rfl (pc0 := 25) (pc' := 2) rfl (hb hby d3_25) (by decide) (by decide) ?_
    refine XS.iloadN X199.here hx rfl (hb hby d3_2) rfl ?_
    refine XS.aloadN X199.here hx rfl (hb hby d3_3) rfl rfl ?_
    exact k
  obtain ⟨T200, X200, e200, st200⟩ := getF X199 hx hZ hown (host := "") (Or.inl (w_24 hw)) Via.refl e199 F_a1_size (g := (mkF m 4 #[.val (.ref a1), .val (.int 1)] [(.ref a1), (.int 1)])) rfl rfl (hb hby d3_4)
  refine WP.st st200 ?_
  clear st200
  show WP p.tables e below _ T200 (mkF m 7 #[.val (.ref a1), .val (.int 1)] [(.int 1), (.int 1)])
  refine WP.st (T' := T200) (f' := (mkF m 30 #[.val (.ref a1), .val (.int 1)] [(.int 0), (.ref a1)])) (fun t k => ?_) ?_
  · refine XS.icmpYes X200.here hx rfl (pc0 := 7) (pc' := 28) rfl (hb hby d3_7) rfl (flt (by decide : ¬ ((1 : Int32) < (1 : Int32)))).2.1 (by decide) (by decide) ?_
    refine XS.aloadN X200.here hx rfl (hb hby d3_28) rfl rfl ?_
    refine XS.iconst X200.here hx rfl (hb hby d3_29) ?_
    exact k
  obtain ⟨T201, h201, X201, e201, W201, st201⟩ := putF X200 hx hZ hown (host := "") (Or.inl (w_24 hw)) Via.refl e200 F_a1_size E_a1 (Or.inl (w_25 hw)) (w_1 hw) (ty := .int) (by decide) rfl rfl (g := (mkF m 30 #[.val (.ref a1), .val (.int 1)] [(.int 0), (.ref a1)])) rfl rfl (hb hby d3_30)
  refine WP.st st201 ?_
  clear st201
  replace E_a1 := E_a1.wr W201
  replace F_a1_nodes := F_a1_nodes.other W201 (Or.inr (sn_16 hw))
  replace F_a1_seconds := F_a1_seconds.other W201 (Or.inr (sn_17 hw))
  replace F_a1_metres := F_a1_metres.other W201 (Or.inr (sn_18 hw))
  replace F_a1_position := F_a1_position.other W201 (Or.inr (sn_19 hw))
  replace F_a1_size := F_a1_size.same W201
  replace V_tn := V_tn.other W201 (Ne.symm ne_a1_tn)
  replace V_ts := V_ts.other W201 (Ne.symm ne_a1_ts)
  replace V_tm := V_tm.other W201 (Ne.symm ne_a1_tm)
  replace V_tp := V_tp.other W201 (Ne.symm ne_a1_tp)
  replace Z0 := Nat.le_trans Z0 (Keep.of_wr W201).1
  replace KP := KP.wr W201 (Or.inl (List.mem_of_getElem? (i := 0) rfl))
  replace NF := Fr.snoc X201 NF g_a1
  clear W201
  show WP p.tables e below _ T201 (mkF m 33 #[.val (.ref a1), .val (.int 1)] [])
  subst hG
  obtain ⟨fs, hr, hrun, hended, hW, hsame⟩ := X201.leave (v := none) (fun _ => rfl)
  refine WP.fin ⟨_, _, ?_, hrun, hended, _, _, rfl, ?_, ⟨_, rfl⟩, hW, hsame.mono (by decide) (by decide)⟩
  · exact X201.returnOut hx Bd.returns (hb hby d3_33) hr
  · show Q3t21 Z a1 tn ts tm tp kn ks km kp nd1 nd2 s0 s1 s2 m0 m1 m2 p0 p1 p2 h0 n0 _ T201.heap _
    rw [e201]
    exact ⟨rfl, NF, KP, F_a1_nodes, F_a1_seconds, F_a1_metres, F_a1_position, F_a1_size, V_tn, V_ts, V_tm, V_tp⟩
theorem ef_7t24 (m : MethodId) (z0 : Addr) (z2 : UInt64) (z3 : UInt64) : entryFrame m #[(.ref z0), (.int 1), (.double z2), (.double z3), (.int 1)] 7 = mkF m 0 #[.val (.ref z0), .val (.int 1), .val (.double z2), .second, .val (.double z3), .second, .val (.int 1)] [] := by
  all_goals first | (simp [entryFrame, mkF, argsToLocals, Value.category]; done) | rfl
def Q7t24 (Z : State) (a1 : Addr) (x1 : UInt64) (x2 : UInt64) (tn : Addr) (ts : Addr) (tm : Addr) (tp : Addr) (kn : ClassId) (ks : ClassId) (km : ClassId) (kp : ClassId) (nd0 : Value) (nd1 : Value) (nd2 : Value) (s0 : Value) (s1 : Value) (s2 : Value) (m0 : Value) (m1 : Value) (m2 : Value) (p0 : Value) (p1 : Value) (p2 : Value) (u_size : Int32) (h0 : Heap) (n0 : Nat) (v : Option Value) (h : Heap) (L : List Loc) : Prop := v = none ∧ Fr n0 L ∧ Keep h0 h [a1, tn, ts, tm, tp] ∧ Fld Z h a1 "com/example/tandemcab/tandemcab/NodeQueue" "nodes" "[I" (.ref tn) ∧ Fld Z h a1 "com/example/tandemcab/tandemcab/NodeQueue" "seconds" "[D" (.ref ts) ∧ Fld Z h a1 "com/example/tandemcab/tandemcab/NodeQueue" "metres" "[D" (.ref tm) ∧ Fld Z h a1 "com/example/tandemcab/tandemcab/NodeQueue" "position" "[I" (.ref tp) ∧ Fld Z h a1 "com/example/tandemcab/tandemcab/NodeQueue" "size" "I" (.int u_size) ∧ (Arv Z h tn kn .int (3 : Int32) [nd0, (.int 1), nd2] (.int 0)) ∧ (Arv Z h ts ks .double (3 : Int32) [s0, (.double x1), s2] (.double 0)) ∧ (Arv Z h tm km .double (3 : Int32) [m0, (.double x2), m2] (.double 0)) ∧ (Arv Z h tp kp .int (3 : Int32) [p0, (.int 2), p2] (.int 0))
set_option maxRecDepth 65536 in
set_option maxHeartbeats 40000000 in
theorem rm7t24 (l : Launch) (Z : State) (a0 : Array Value) (hw : ∀ d ∈ tables_1, d.before a0 Z = true) (wsC : List Jvm.Cond) (a1 : Addr) (x1 : UInt64) (x2 : UInt64) (tn : Addr) (ts : Addr) (tm : Addr) (tp : Addr) (kn : ClassId) (ks : ClassId) (km : ClassId) (kp : ClassId) (nd0 : Value) (nd1 : Value) (nd2 : Value) (s0 : Value) (s1 : Value) (s2 : Value) (m0 : Value) (m1 : Value) (m2 : Value) (p0 : Value) (p1 : Value) (p2 : Value) (u_size : Int32) (h0 : Heap) (n0 : Nat) (Z0 : n0 ≤ h0.size) (E_a1 : Exa Z h0 a1 "com/example/tandemcab/tandemcab/NodeQueue") (F_a1_nodes : Fld Z h0 a1 "com/example/tandemcab/tandemcab/NodeQueue" "nodes" "[I" (.ref tn)) (F_a1_seconds : Fld Z h0 a1 "com/example/tandemcab/tandemcab/NodeQueue" "seconds" "[D" (.ref ts)) (F_a1_metres : Fld Z h0 a1 "com/example/tandemcab/tandemcab/NodeQueue" "metres" "[D" (.ref tm)) (F_a1_position : Fld Z h0 a1 "com/example/tandemcab/tandemcab/NodeQueue" "position" "[I" (.ref tp)) (F_a1_size : Fld Z h0 a1 "com/example/tandemcab/tandemcab/NodeQueue" "size" "I" (.int u_size)) (V_tn : Arv Z h0 tn kn .int (3 : Int32) [nd0, nd1, nd2] (.int 0)) (V_ts : Arv Z h0 ts ks .double (3 : Int32) [s0, s1, s2] (.double 0)) (V_tm : Arv Z h0 tm km .double (3 : Int32) [m0, m1, m2] (.double 0)) (V_tp : Arv Z h0 tp kp .int (3 : Int32) [p0, p1, p2] (.int 0)) (g_a1 : n0 ≤ a1) (g_tn : n0 ≤ tn) (g_ts : n0 ≤ ts) (g_tm : n0 ≤ tm) (g_tp : n0 ≤ tp) (ne_a1_tn : a1 ≠ tn) (ne_a1_ts : a1 ≠ ts) (ne_a1_tm : a1 ≠ tm) (ne_a1_tp : a1 ≠ tp) (ne_tn_ts : tn ≠ ts) (ne_tn_tm : tn ≠ tm) (ne_tn_tp : tn ≠ tp) (ne_ts_tm : ts ≠ tm) (ne_ts_tp : ts ≠ tp) (ne_tm_tp : tm ≠ tp) :
    MetFree l (⟨"com/example/tandemcab/tandemcab/NodeQueue", "place", "(IDDI)V"⟩ : MethodName) (head1 (Jvm.Cond.code (⟨"com/example/tandemcab/tandemcab/NodeQueue", "place", "(IDDI)V"⟩ : MethodName) prog_49_method_10_code 7 none :: wsC) ({ frames := 0, cells := 0, slots := 0, locals := 0 } : Room)) (fun a U => a = #[(.ref a1), (.int 1), (.double x1), (.double x2), (.int 1)] ∧ Z.Warmed39 U.vm ∧ U.heap = h0) (fun _ _ _ _ _ => True) (fun _ U o U' => ∃ v L, o = .returned v ∧ Q7t24 Z a1 x1 x2 tn ts tm tp kn ks km kp nd0 nd1 nd2 s0 s1 s2 m0 m1 m2 p0 p1 p2 u_size h0 n0 v U'.heap L ∧ FrameEnd U o U' L ({ frames := 0, cells := 0, slots := 0, locals := 0 } : Room).cells ({ frames := 0, cells := 0, slots := 0, locals := 0 } : Room).slots) := by
  refine MetFree.of_bodySF (plainFor_of_name pn_0) hisR ?_
  intro p e s m args below meth c s₁ Bd hml0 hP hK
  obtain ⟨rfl, hZ, hh⟩ := hP
  have hx := Bd.exec
  have hby := Bd.bytes
  have hml : c.maxLocals = 7 := hml0
  have hown : s.vm.findClass "com/example/tandemcab/tandemcab/NodeQueue" = some m.cls := findClass_of_methodNamed Bd.named
  have hnm := (name_of_methodNamed Bd.named Bd.method).1
  have X0 : Stand p l e ({ frames := 0, cells := 0, slots := 0, locals := 0 } : Room) s m #[(.ref a1), (.int 1), (.double x1), (.double x2), (.int 1)] below meth c s₁ [] 0 0 := Stand.of_body Bd
  have e0 : s₁.heap = h0 := by rw [← hh, Bd.state]; rfl
  have NF := Fr.nil n0
  have KP : Keep h0 h0 [a1, tn, ts, tm, tp] := Keep.refl h0 _
  refine WP.go ?_
  refine WP.cast (ef_7t24 m a1 x1 x2) ?_
  refine WP.name ?_
  intro G hG
  refine WP.st (T' := s₁) (f' := (mkF m 1 #[.val (.ref a1), .val (.int 1), .val (.double x1), .second, .val (.double x2), .second, .val (.int 1)] [(.ref a1)])) (fun t k => ?_) ?_
  · refine XS.aloadN X0.here hx rfl (hb hby d7_0) rfl rfl ?_
    exact k
  obtain ⟨T205, X205, e205, st205⟩ := getF X0 hx hZ hown (host := "") (Or.inl (w_10 hw)) Via.refl e0 F_a1_nodes (g := (mkF m 1 #[.val (.ref a1), .val (.int 1), .val (.double x1), .second, .val (.double x2), .second, .val (.int 1)] [(.ref a1)])) rfl rfl (hb hby d7_1)
  refine WP.st st205 ?_
  clear st205
  show WP p.tables e below _ T205 (mkF m 4 #[.val (.ref a1), .val (.int 1), .val (.double x1), .second, .val (.double x2), .second, .val (.int 1)] [(.ref tn)])
  refine WP.st (T' := T205) (f' := (mkF m 7 #[.val (.ref a1), .val (.int 1), .val (.double x1), .second, .val (.double x2), .second, .val (.int 1)] [(.int 1), (.int 1), (.ref tn)])) (fun t k => ?_) ?_
  · refine XS.iload X205.here hx rfl (hb hby d7_4) rfl ?_
    refine XS.iloadN X205.here hx rfl (hb hby d7_6) rfl ?_
    exact k
  obtain ⟨cl206, Ar206, q206, S206, N206, H206, G206⟩ := V_tn
  have hin206 : ¬ ((1 : Int32) < 0 ∨ cl206.slots.size ≤ ((1 : Int32)).toNatClampNeg) := inb_of S206 ⟨by decide, by decide⟩
  obtain ⟨T207, h207, X207, e207, W207, st207⟩ := stI X205 hx hZ e205 Ar206 (j := (1 : Int32)) hin206 (g := (mkF m 7 #[.val (.ref a1), .val (.int 1), .val (.double x1), .second, .val (.double x2), .second, .val (.int 1)] [(.int 1), (.int 1), (.ref tn)])) rfl rfl (hb hby d7_7)
  refine WP.st st207 ?_
  clear st207
  have Vn : Arv Z h207 tn kn .int (3 : Int32) [nd0, (.int 1), nd2] (.int 0) := Arv.set Ar206 q206 S206 N206 H206 G206 rfl W207 1 rfl (Nat.le_of_ble_eq_true rfl)
  replace E_a1 := E_a1.wr W207
  replace F_a1_nodes := F_a1_nodes.other W207 (Or.inl ne_a1_tn)
  replace F_a1_seconds := F_a1_seconds.other W207 (Or.inl ne_a1_tn)
  replace F_a1_metres := F_a1_metres.other W207 (Or.inl ne_a1_tn)
  replace F_a1_position := F_a1_position.other W207 (Or.inl ne_a1_tn)
  replace F_a1_size := F_a1_size.other W207 (Or.inl ne_a1_tn)
  replace V_ts := V_ts.other W207 (Ne.symm ne_tn_ts)
  replace V_tm := V_tm.other W207 (Ne.symm ne_tn_tm)
  replace V_tp := V_tp.other W207 (Ne.symm ne_tn_tp)
  replace Z0 := Nat.le_trans Z0 (Keep.of_wr W207).1
  replace KP := KP.wr W207 (Or.inl (List.mem_of_getElem? (i := 1) rfl))
  replace V_tn := Vn
  replace NF := Fr.snoc X207 NF g_tn
  clear W207 hin206 q206 S206 N206 H206 G206 Ar206
  show WP p.tables e below _ T207 (mkF m 8 #[.val (.ref a1), .val (.int 1), .val (.double x1), .second, .val (.double x2), .second, .val (.int 1)] [])
  refine WP.st (T' := T207) (f' := (mkF m 9 #[.val (.ref a1), .val (.int 1), .val (.double x1), .second, .val (.double x2), .second, .val (.int 1)] [(.ref a1)])) (fun t k => ?_) ?_
  · refine XS.aloadN X207.here hx rfl (hb hby d7_8) rfl rfl ?_
    exact k
  obtain ⟨T208, X208, e208, st208⟩ := getF X207 hx hZ hown (host := "") (Or.inl (w_13 hw)) Via.refl e207 F_a1_seconds (g := (mkF m 9 #[.val (.ref a1), .val (.int 1), .val (.double x1), .second, .val (.double x2), .second, .val (.int 1)] [(.ref a1)])) rfl rfl (hb hby d7_9)
  refine WP.st st208 ?_
  clear st208
  show WP p.tables e below _ T208 (mkF m 12 #[.val (.ref a1), .val (.int 1), .val (.double x1), .second, .val (.double x2), .second, .val (.int 1)] [(.ref ts)])
  refine WP.st (T' := T208) (f' := (mkF m 15 #[.val (.ref a1), .val (.int 1), .val (.double x1), .second, .val (.double x2), .second, .val (.int 1)] [(.double x1), (.int 1), (.ref ts)])) (fun t k => ?_) ?_
  · refine XS.iload X208.here hx rfl (hb hby d7_12) rfl ?_
    refine XS.dloadN X208.here hx rfl (hb hby d7_14) rfl ?_
    exact k
  obtain ⟨cl209, Ar209, q209, S209, N209, H209, G209⟩ := V_ts
  have hin209 : ¬ ((1 : Int32) < 0 ∨ cl209.slots.size ≤ ((1 : Int32)).toNatClampNeg) := inb_of S209 ⟨by decide, by decide⟩
  obtain ⟨T210, h210, X210, e210, W210, st210⟩ := stD X208 hx hZ e208 Ar209 (j := (1 : Int32)) hin209 (g := (mkF m 15 #[.val (.ref a1), .val (.int 1), .val (.double x1), .second, .val (.double x2), .second, .val (.int 1)] [(.double x1), (.int 1), (.ref ts)])) rfl rfl (hb hby d7_15)
  refine WP.st st210 ?_
  clear st210
  have Vn : Arv Z h210 ts ks .double (3 : Int32) [s0, (.double x1), s2] (.double 0) := Arv.set Ar209 q209 S209 N209 H209 G209 rfl W210 1 rfl (Nat.le_of_ble_eq_true rfl)
  replace E_a1 := E_a1.wr W210
  replace F_a1_nodes := F_a1_nodes.other W210 (Or.inl ne_a1_ts)
  replace F_a1_seconds := F_a1_seconds.other W210 (Or.inl ne_a1_ts)
  replace F_a1_metres := F_a1_metres.other W210 (Or.inl ne_a1_ts)
  replace F_a1_position := F_a1_position.other W210 (Or.inl ne_a1_ts)
  replace F_a1_size := F_a1_size.other W210 (Or.inl ne_a1_ts)
  replace V_tm := V_tm.other W210 (Ne.symm ne_ts_tm)
  replace V_tp := V_tp.other W210 (Ne.symm ne_ts_tp)
  replace V_tn := V_tn.other W210 ne_tn_ts
  replace Z0 := Nat.le_trans Z0 (Keep.of_wr W210).1
  replace KP := KP.wr W210 (Or.inl (List.mem_of_getElem? (i := 2) rfl))
  replace V_ts := Vn
  replace NF := Fr.snoc X210 NF g_ts
  clear W210 hin209 q209 S209 N209 H209 G209 Ar209
  show WP p.tables e below _ T210 (mkF m 16 #[.val (.ref a1), .val (.int 1), .val (.double x1), .second, .val (.double x2), .second, .val (.int 1)] [])
  refine WP.st (T' := T210) (f' := (mkF m 17 #[.val (.ref a1), .val (.int 1), .val (.double x1), .second, .val (.double x2), .second, .val (.int 1)] [(.ref a1)])) (fun t k => ?_) ?_
  · refine XS.aloadN X210.here hx rfl (hb hby d7_16) rfl rfl ?_
    exact k
  obtain ⟨T211, X211, e211, st211⟩ := getF X210 hx hZ hown (host := "") (Or.inl (w_15 hw)) Via.refl e210 F_a1_metres (g := (mkF m 17 #[.val (.ref a1), .val (.int 1), .val (.double x1), .second, .val (.double x2), .second, .val (.int 1)] [(.ref a1)])) rfl rfl (hb hby d7_17)
  refine WP.st st211 ?_
  clear st211
  show WP p.tables e below _ T211 (mkF m 20 #[.val (.ref a1), .val (.int 1), .val (.double x1), .second, .val (.double x2), .second, .val (.int 1)] [(.ref tm)])
  refine WP.st (T' := T211) (f' := (mkF m 24 #[.val (.ref a1), .val (.int 1), .val (.double x1), .second, .val (.double x2), .second, .val (.int 1)] [(.double x2), (.int 1), (.ref tm)])) (fun t k => ?_) ?_
  · refine XS.iload X211.here hx rfl (hb hby d7_20) rfl ?_
    refine XS.dload X211.here hx rfl (hb hby d7_22) rfl ?_
    exact k
  obtain ⟨cl212, Ar212, q212, S212, N212, H212, G212⟩ := V_tm
  have hin212 : ¬ ((1 : Int32) < 0 ∨ cl212.slots.size ≤ ((1 : Int32)).toNatClampNeg) := inb_of S212 ⟨by decide, by decide⟩
  obtain ⟨T213, h213, X213, e213, W213, st213⟩ := stD X211 hx hZ e211 Ar212 (j := (1 : Int32)) hin212 (g := (mkF m 24 #[.val (.ref a1), .val (.int 1), .val (.double x1), .second, .val (.double x2), .second, .val (.int 1)] [(.double x2), (.int 1), (.ref tm)])) rfl rfl (hb hby d7_24)
  refine WP.st st213 ?_
  clear st213
  have Vn : Arv Z h213 tm km .double (3 : Int32) [m0, (.double x2), m2] (.double 0) := Arv.set Ar212 q212 S212 N212 H212 G212 rfl W213 1 rfl (Nat.le_of_ble_eq_true rfl)
  replace E_a1 := E_a1.wr W213
  replace F_a1_nodes := F_a1_nodes.other W213 (Or.inl ne_a1_tm)
  replace F_a1_seconds := F_a1_seconds.other W213 (Or.inl ne_a1_tm)
  replace F_a1_metres := F_a1_metres.other W213 (Or.inl ne_a1_tm)
  replace F_a1_position := F_a1_position.other W213 (Or.inl ne_a1_tm)
  replace F_a1_size := F_a1_size.other W213 (Or.inl ne_a1_tm)
  replace V_tp := V_tp.other W213 (Ne.symm ne_tm_tp)
  replace V_tn := V_tn.other W213 ne_tn_tm
  replace V_ts := V_ts.other W213 ne_ts_tm
  replace Z0 := Nat.le_trans Z0 (Keep.of_wr W213).1
  replace KP := KP.wr W213 (Or.inl (List.mem_of_getElem? (i := 3) rfl))
  replace V_tm := Vn
  replace NF := Fr.snoc X213 NF g_tm
  clear W213 hin212 q212 S212 N212 H212 G212 Ar212
  show WP p.tables e below _ T213 (mkF m 25 #[.val (.ref a1), .val (.int 1), .val (.double x1), .second, .val (.double x2), .second, .val (.int 1)] [])
  refine WP.st (T' := T213) (f' := (mkF m 26 #[.val (.ref a1), .val (.int 1), .val (.double x1), .second, .val (.double x2), .second, .val (.int 1)] [(.ref a1)])) (fun t k => ?_) ?_
  · refine XS.aloadN X213.here hx rfl (hb hby d7_25) rfl rfl ?_
    exact k
  obtain ⟨T214, X214, e214, st214⟩ := getF X213 hx hZ hown (host := "") (Or.inl (w_17 hw)) Via.refl e213 F_a1_position (g := (mkF m 26 #[.val (.ref a1), .val (.int 1), .val (.double x1), .second, .val (.double x2), .second, .val (.int 1)] [(.ref a1)])) rfl rfl (hb hby d7_26)
  refine WP.st st214 ?_
  clear st214
  show WP p.tables e below _ T214 (mkF m 29 #[.val (.ref a1), .val (.int 1), .val (.double x1), .second, .val (.double x2), .second, .val (.int 1)] [(.ref tp)])
  refine WP.st (T' := T214) (f' := (mkF m 34 #[.val (.ref a1), .val (.int 1), .val (.double x1), .second, .val (.double x2), .second, .val (.int 1)] [(.int ((1 : Int32) + (1 : Int32))), (.int 1), (.ref tp)])) (fun t k => ?_) ?_
  · refine XS.iloadN X214.here hx rfl (hb hby d7_29) rfl ?_
    refine XS.iload X214.here hx rfl (hb hby d7_30) rfl ?_
    refine XS.iconst X214.here hx rfl (hb hby d7_32) ?_
    refine XS.iadd X214.here hx rfl (hb hby d7_33) rfl ?_
    exact k
  rw [show ((1 : Int32) + (1 : Int32)) = (2 : Int32) from by decide]
  show WP p.tables e below _ T214 (mkF m 34 #[.val (.ref a1), .val (.int 1), .val (.double x1), .second, .val (.double x2), .second, .val (.int 1)] [(.int 2), (.int 1), (.ref tp)])
  obtain ⟨cl215, Ar215, q215, S215, N215, H215, G215⟩ := V_tp
  have hin215 : ¬ ((1 : Int32) < 0 ∨ cl215.slots.size ≤ ((1 : Int32)).toNatClampNeg) := inb_of S215 ⟨by decide, by decide⟩
  obtain ⟨T216, h216, X216, e216, W216, st216⟩ := stI X214 hx hZ e214 Ar215 (j := (1 : Int32)) hin215 (g := (mkF m 34 #[.val (.ref a1), .val (.int 1), .val (.double x1), .second, .val (.double x2), .second, .val (.int 1)] [(.int 2), (.int 1), (.ref tp)])) rfl rfl (hb hby d7_34)
  refine WP.st st216 ?_
  clear st216
  have Vn : Arv Z h216 tp kp .int (3 : Int32) [p0, (.int 2), p2] (.int 0) := Arv.set Ar215 q215 S215 N215 H215 G215 rfl W216 1 rfl (Nat.le_of_ble_eq_true rfl)
  replace E_a1 := E_a1.wr W216
  replace F_a1_nodes := F_a1_nodes.other W216 (Or.inl ne_a1_tp)
  replace F_a1_seconds := F_a1_seconds.other W216 (Or.inl ne_a1_tp)
  replace F_a1_metres := F_a1_metres.other W216 (Or.inl ne_a1_tp)
  replace F_a1_position := F_a1_position.other W216 (Or.inl ne_a1_tp)
  replace F_a1_size := F_a1_size.other W216 (Or.inl ne_a1_tp)
  replace V_tn := V_tn.other W216 ne_tn_tp
  replace V_ts := V_ts.other W216 ne_ts_tp
  replace V_tm := V_tm.other W216 ne_tm_tp
  replace Z0 := Nat.le_trans Z0 (Keep.of_wr W216).1
  replace KP := KP.wr W216 (Or.inl (List.mem_of_getElem? (i := 4) rfl))
  replace V_tp := Vn
  replace NF := Fr.snoc X216 NF g_tp
  clear W216 hin215 q215 S215 N215 H215 G215 Ar215
  show WP p.tables e below _ T216 (mkF m 35 #[.val (.ref a1), .val (.int 1), .val (.double x1), .second, .val (.double x2), .second, .val (.int 1)] [])
  subst hG
  obtain ⟨fs, hr, hrun, hended, hW, hsame⟩ := X216.leave (v := none) (fun _ => rfl)
  refine WP.fin ⟨_, _, ?_, hrun, hended, _, _, rfl, ?_, ⟨_, rfl⟩, hW, hsame.mono (by decide) (by decide)⟩
  · exact X216.returnOut hx Bd.returns (hb hby d7_35) hr
  · show Q7t24 Z a1 x1 x2 tn ts tm tp kn ks km kp nd0 nd1 nd2 s0 s1 s2 m0 m1 m2 p0 p1 p2 u_size h0 n0 _ T216.heap _
    rw [e216]
    exact ⟨rfl, NF, KP, F_a1_nodes, F_a1_seconds, F_a1_metres, F_a1_position, F_a1_size, V_tn, V_ts, V_tm, V_tp⟩
theorem ef_6t23 (m : MethodId) (z0 : Addr) (z2 : UInt64) (z3 : UInt64) : entryFrame m #[(.ref z0), (.int 1), (.double z2), (.double z3), (.int 1)] 8 = mkF m 0 #[.val (.ref z0), .val (.int 1), .val (.double z2), .second, .val (.double z3), .second, .val (.int 1), .unset] [] := by
  all_goals first | (simp [entryFrame, mkF, argsToLocals, Value.category]; done) | rfl
theorem d6_36 : decode prog_49_method_7_code 36 = .ok (.goto 18, 3) := by decide +kernel
def Q6t23 (Z : State) (a1 : Addr) (x1 : UInt64) (x2 : UInt64) (tn : Addr) (ts : Addr) (tm : Addr) (tp : Addr) (kn : ClassId) (ks : ClassId) (km : ClassId) (kp : ClassId) (nd1 : Value) (nd2 : Value) (y1 : UInt64) (s1 : Value) (s2 : Value) (y2 : UInt64) (m1 : Value) (m2 : Value) (p0 : Value) (p1 : Value) (p2 : Value) (u_size : Int32) (h0 : Heap) (n0 : Nat) (v : Option Value) (h : Heap) (L : List Loc) : Prop := v = none ∧ Fr n0 L ∧ Keep h0 h [a1, tn, ts, tm, tp] ∧ Fld Z h a1 "com/example/tandemcab/tandemcab/NodeQueue" "nodes" "[I" (.ref tn) ∧ Fld Z h a1 "com/example/tandemcab/tandemcab/NodeQueue" "seconds" "[D" (.ref ts) ∧ Fld Z h a1 "com/example/tandemcab/tandemcab/NodeQueue" "metres" "[D" (.ref tm) ∧ Fld Z h a1 "com/example/tandemcab/tandemcab/NodeQueue" "position" "[I" (.ref tp) ∧ Fld Z h a1 "com/example/tandemcab/tandemcab/NodeQueue" "size" "I" (.int u_size) ∧ (Arv Z h tn kn .int (3 : Int32) [(.int 2), (.int 1), nd2] (.int 0)) ∧ (Arv Z h ts ks .double (3 : Int32) [(.double y1), (.double x1), s2] (.double 0)) ∧ (Arv Z h tm km .double (3 : Int32) [(.double y2), (.double x2), m2] (.double 0)) ∧ (Arv Z h tp kp .int (3 : Int32) [p0, (.int 2), p2] (.int 0))
set_option maxRecDepth 65536 in
set_option maxHeartbeats 40000000 in
theorem rm6t23 (l : Launch) (Z : State) (a0 : Array Value) (hw : ∀ d ∈ tables_1, d.before a0 Z = true) (wsC : List Jvm.Cond) (a1 : Addr) (x1 : UInt64) (x2 : UInt64) (tn : Addr) (ts : Addr) (tm : Addr) (tp : Addr) (kn : ClassId) (ks : ClassId) (km : ClassId) (kp : ClassId) (nd1 : Value) (nd2 : Value) (y1 : UInt64) (s1 : Value) (s2 : Value) (y2 : UInt64) (m1 : Value) (m2 : Value) (p0 : Value) (p1 : Value) (p2 : Value) (u_size : Int32) (h0 : Heap) (n0 : Nat) (Z0 : n0 ≤ h0.size) (E_a1 : Exa Z h0 a1 "com/example/tandemcab/tandemcab/NodeQueue") (F_a1_nodes : Fld Z h0 a1 "com/example/tandemcab/tandemcab/NodeQueue" "nodes" "[I" (.ref tn)) (F_a1_seconds : Fld Z h0 a1 "com/example/tandemcab/tandemcab/NodeQueue" "seconds" "[D" (.ref ts)) (F_a1_metres : Fld Z h0 a1 "com/example/tandemcab/tandemcab/NodeQueue" "metres" "[D" (.ref tm)) (F_a1_position : Fld Z h0 a1 "com/example/tandemcab/tandemcab/NodeQueue" "position" "[I" (.ref tp)) (F_a1_size : Fld Z h0 a1 "com/example/tandemcab/tandemcab/NodeQueue" "size" "I" (.int u_size)) (V_tn : Arv Z h0 tn kn .int (3 : Int32) [(.int 2), nd1, nd2] (.int 0)) (V_ts : Arv Z h0 ts ks .double (3 : Int32) [(.double y1), s1, s2] (.double 0)) (V_tm : Arv Z h0 tm km .double (3 : Int32) [(.double y2), m1, m2] (.double 0)) (V_tp : Arv Z h0 tp kp .int (3 : Int32) [p0, p1, p2] (.int 0)) (g_a1 : n0 ≤ a1) (g_tn : n0 ≤ tn) (g_ts : n0 ≤ ts) (g_tm : n0 ≤ tm) (g_tp : n0 ≤ tp) (ne_a1_tn : a1 ≠ tn) (ne_a1_ts : a1 ≠ ts) (ne_a1_tm : a1 ≠ tm) (ne_a1_tp : a1 ≠ tp) (ne_tn_ts : tn ≠ ts) (ne_tn_tm : tn ≠ tm) (ne_tn_tp : tn ≠ tp) (ne_ts_tm : ts ≠ tm) (ne_ts_tp : ts ≠ tp) (ne_tm_tp : tm ≠ tp) (hbef : (own_before x1 x2 y1 y2) = (0 : Int32)) :
    MetFree l (⟨"com/example/tandemcab/tandemcab/NodeQueue", "up", "(IDDI)V"⟩ : MethodName) (head1 (Jvm.Cond.code (⟨"com/example/tandemcab/tandemcab/NodeQueue", "up", "(IDDI)V"⟩ : MethodName) prog_49_method_7_code 8 none :: wsC) ({ frames := 1, cells := 0, slots := 0, locals := 19 } : Room)) (fun a U => a = #[(.ref a1), (.int 1), (.double x1), (.double x2), (.int 1)] ∧ Z.Warmed39 U.vm ∧ U.heap = h0) (fun _ _ _ _ _ => True) (fun _ U o U' => ∃ v L, o = .returned v ∧ Q6t23 Z a1 x1 x2 tn ts tm tp kn ks km kp nd1 nd2 y1 s1 s2 y2 m1 m2 p0 p1 p2 u_size h0 n0 v U'.heap L ∧ FrameEnd U o U' L ({ frames := 1, cells := 0, slots := 0, locals := 19 } : Room).cells ({ frames := 1, cells := 0, slots := 0, locals := 19 } : Room).slots) := by
  refine MetFree.of_bodySF (plainFor_of_name pn_0) hisR ?_
  intro p e s m args below meth c s₁ Bd hml0 hP hK
  obtain ⟨rfl, hZ, hh⟩ := hP
  have hx := Bd.exec
  have hby := Bd.bytes
  have hml : c.maxLocals = 8 := hml0
  have hown : s.vm.findClass "com/example/tandemcab/tandemcab/NodeQueue" = some m.cls := findClass_of_methodNamed Bd.named
  have hnm := (name_of_methodNamed Bd.named Bd.method).1
  have X0 : Stand p l e ({ frames := 1, cells := 0, slots := 0, locals := 19 } : Room) s m #[(.ref a1), (.int 1), (.double x1), (.double x2), (.int 1)] below meth c s₁ [] 0 0 := Stand.of_body Bd
  have e0 : s₁.heap = h0 := by rw [← hh, Bd.state]; rfl
  have NF := Fr.nil n0
  have KP : Keep h0 h0 [a1, tn, ts, tm, tp] := Keep.refl h0 _
  refine WP.go ?_
  refine WP.cast (ef_6t23 m a1 x1 x2) ?_
  refine WP.name ?_
  intro G hG
  refine WP.st (T' := s₁) (f' := (mkF m 9 #[.val (.ref a1), .val (.int 1), .val (.double x1), .second, .val (.double x2), .second, .val (.int 1), .unset] [(.int ((1 : Int32) - (1 : Int32)))])) (fun t k => ?_) ?_
  · refine XS.iload X0.here hx rfl (hb hby d6_0) rfl ?_
    refine XS.ifNo X0.here hx rfl (hb hby d6_2) rfl ((if0 _ _).trans (tlt (by decide : (0 : Int32) < (1 : Int32))).2.2.2) ?_
    refine XS.iload X0.here hx rfl (hb hby d6_5) rfl ?_
    refine XS.iconst X0.here hx rfl (hb hby d6_7) ?_
    refine XS.isub X0.here hx rfl (hb hby d6_8) rfl ?_
    exact k
  rw [show ((1 : Int32) - (1 : Int32)) = (0 : Int32) from by decide]
  show WP p.tables e below _ s₁ (mkF m 9 #[.val (.ref a1), .val (.int 1), .val (.double x1), .second, .val (.double x2), .second, .val (.int 1), .unset] [(.int 0)])
  refine WP.st (T' := s₁) (f' := (mkF m 11 #[.val (.ref a1), .val (.int 1), .val (.double x1), .second, .val (.double x2), .second, .val (.int 1), .unset] [(.int (((0 : Int32).toUInt32 >>> ((1 : Int32) &&& 31).toUInt32).toInt32))])) (fun t k => ?_) ?_
  · refine XS.iconst X0.here hx rfl (hb hby d6_9) ?_
    refine XS.iushr X0.here hx rfl (hb hby d6_10) rfl ?_
    exact k
  rw [show (((0 : Int32).toUInt32 >>> ((1 : Int32) &&& 31).toUInt32).toInt32) = (0 : Int32) from by decide]
  show WP p.tables e below _ s₁ (mkF m 11 #[.val (.ref a1), .val (.int 1), .val (.double x1), .second, .val (.double x2), .second, .val (.int 1), .unset] [(.int 0)])
  refine WP.st (T' := s₁) (f' := (mkF m 17 #[.val (.ref a1), .val (.int 1), .val (.double x1), .second, .val (.double x2), .second, .val (.int 1), .val (.int 0)] [(.ref a1), (.double x2), (.double x1)])) (fun t k => ?_) ?_
  · refine XS.istore X0.here hx rfl (hb hby d6_11) rfl (l' := #[.val (.ref a1), .val (.int 1), .val (.double x1), .second, .val (.double x2), .second, .val (.int 1), .val (.int 0)]) rfl ?_
    refine XS.dloadN X0.here hx rfl (hb hby d6_13) rfl ?_
    refine XS.dload X0.here hx rfl (hb hby d6_14) rfl ?_
    refine XS.aloadN X0.here hx rfl (hb hby d6_16) rfl rfl ?_
    exact k
  obtain ⟨T217, X217, e217, st217⟩ := getF X0 hx hZ hown (host := "") (Or.inl (w_13 hw)) Via.refl e0 F_a1_seconds (g := (mkF m 17 #[.val (.ref a1), .val (.int 1), .val (.double x1), .second, .val (.double x2), .second, .val (.int 1), .val (.int 0)] [(.ref a1), (.double x2), (.double x1)])) rfl rfl (hb hby d6_17)
  refine WP.st st217 ?_
  clear st217
  show WP p.tables e below _ T217 (mkF m 20 #[.val (.ref a1), .val (.int 1), .val (.double x1), .second, .val (.double x2), .second, .val (.int 1), .val (.int 0)] [(.ref ts), (.double x2), (.double x1)])
  refine WP.st (T' := T217) (f' := (mkF m 22 #[.val (.ref a1), .val (.int 1), .val (.double x1), .second, .val (.double x2), .second, .val (.int 1), .val (.int 0)] [(.int 0), (.ref ts), (.double x2), (.double x1)])) (fun t k => ?_) ?_
  · refine XS.iload X217.here hx rfl (hb hby d6_20) rfl ?_
    exact k
  obtain ⟨cl218, Ar218, hin218, hat218, -⟩ := V_ts.rd (j := (0 : Int32)) ⟨by decide, by decide⟩
  replace hat218 : cl218.slots[((0 : Int32)).toNatClampNeg]? = some (.double y1) := hat218
  refine WP.st (T' := T217) (f' := (mkF m 24 #[.val (.ref a1), .val (.int 1), .val (.double x1), .second, .val (.double x2), .second, .val (.int 1), .val (.int 0)] [(.ref a1), (.double y1), (.double x2), (.double x1)])) (fun t k => ?_) ?_
  · refine X217.daload hx (j := (0 : Int32)) (v := (.double y1)) (by rw [e217]; exact Ar218.1) (State.isArrayOf_alike hZ.alike Ar218.2.1) Ar218.2.2 hin218 hat218 (g := (mkF m 22 #[.val (.ref a1), .val (.int 1), .val (.double x1), .second, .val (.double x2), .second, .val (.int 1), .val (.int 0)] [(.int 0), (.ref ts), (.double x2), (.double x1)])) rfl rfl (hb hby d6_22) _ ?_
    refine XS.aloadN X217.here hx rfl (hb hby d6_23) rfl rfl ?_
    exact k
  obtain ⟨T219, X219, e219, st219⟩ := getF X217 hx hZ hown (host := "") (Or.inl (w_15 hw)) Via.refl e217 F_a1_metres (g := (mkF m 24 #[.val (.ref a1), .val (.int 1), .val (.double x1), .second, .val (.double x2), .second, .val (.int 1), .val (.int 0)] [(.ref a1), (.double y1), (.double x2), (.double x1)])) rfl rfl (hb hby d6_24)
  refine WP.st st219 ?_
  clear st219
  show WP p.tables e below _ T219 (mkF m 27 #[.val (.ref a1), .val (.int 1), .val (.double x1), .second, .val (.double x2), .second, .val (.int 1), .val (.int 0)] [(.ref tm), (.double y1), (.double x2), (.double x1)])
  refine WP.st (T' := T219) (f' := (mkF m 29 #[.val (.ref a1), .val (.int 1), .val (.double x1), .second, .val (.double x2), .second, .val (.int 1), .val (.int 0)] [(.int 0), (.ref tm), (.double y1), (.double x2), (.double x1)])) (fun t k => ?_) ?_
  · refine XS.iload X219.here hx rfl (hb hby d6_27) rfl ?_
    exact k
  obtain ⟨cl220, Ar220, hin220, hat220, -⟩ := V_tm.rd (j := (0 : Int32)) ⟨by decide, by decide⟩
  replace hat220 : cl220.slots[((0 : Int32)).toNatClampNeg]? = some (.double y2) := hat220
  refine WP.st (T' := T219) (f' := (mkF m 30 #[.val (.ref a1), .val (.int 1), .val (.double x1), .second, .val (.double x2), .second, .val (.int 1), .val (.int 0)] [(.double y2), (.double y1), (.double x2), (.double x1)])) (fun t k => ?_) ?_
  · refine X219.daload hx (j := (0 : Int32)) (v := (.double y2)) (by rw [e219]; exact Ar220.1) (State.isArrayOf_alike hZ.alike Ar220.2.1) Ar220.2.2 hin220 hat220 (g := (mkF m 29 #[.val (.ref a1), .val (.int 1), .val (.double x1), .second, .val (.double x2), .second, .val (.int 1), .val (.int 0)] [(.int 0), (.ref tm), (.double y1), (.double x2), (.double x1)])) rfl rfl (hb hby d6_29) _ ?_
    exact k
  obtain ⟨_, _, ⟨T221, L221, k221, n221⟩, -, X221, ⟨Lc221, hQ221, l221, y221, z221⟩, st221⟩ := Jvm.LawKit.callS X219 hx (y := (⟨"com/example/tandemcab/tandemcab/NodeQueue", "before", "(DDDD)Z"⟩ : MethodName)) hown (mvT hZ (w_46 hw)) (mvT hZ (w_47 hw)) (mvT hZ (w_2 hw)) (mvT hZ (w_48 hw)) (by decide) (backOf (W := 0) (rm8 l Z a0 hw [] x1 x2 y1 y2 h0 n0 Z0 ) hZ (w_48 hw) (w_2 hw) (by decide) (by decide)) (g := (mkF m 30 #[.val (.ref a1), .val (.int 1), .val (.double x1), .second, .val (.double x2), .second, .val (.int 1), .val (.int 0)] [(.double y2), (.double y1), (.double x2), (.double x1)])) rfl (by rw [hml]; rfl) (argsL := [(.double x1), (.double x2), (.double y1), (.double y2)]) (rest := []) (lenOf pd_4 rfl) rfl (by show 2 * 0 + _ ≤ _; exact Nat.le_of_eq rfl) (hb hby d6_30) (fun _ _ => ⟨rfl, e219, (by decide : 0 + 0 ≤ _), (by decide : 0 + 0 ≤ _)⟩)
  dsimp only [Pt.U, Pt.locs, Pt.cells, Pt.slots] at X221 l221 y221 z221 st221 hQ221
  subst l221 y221 z221
  obtain ⟨rfl, Nq221, Kq221⟩ := hQ221
  replace NF := Fr.app NF Nq221
  clear Nq221
  refine WP.st st221 ?_
  clear st221
  replace Kq221 := Kq221.trans (rfl : h0 = h0)
  show WP p.tables e below _ T221 (mkF m 33 #[.val (.ref a1), .val (.int 1), .val (.double x1), .second, .val (.double x2), .second, .val (.int 1), .val (.int 0)] [(.int (own_before x1 x2 y1 y2))])
  refine WP.st (T' := T221) (f' := (mkF m 61 #[.val (.ref a1), .val (.int 1), .val (.double x1), .second, .val (.double x2), .second, .val (.int 1), .val (.int 0)] [(.int 1), (.double x2), (.double x1), (.int 1), (.ref a1)])) (fun t k => ?_) ?_
  · refine XS.ifNo X221.here hx rfl (hb hby d6_33) rfl ((if0 _ _).trans (teq hbef).2) ?_
    refine XS.goto X221.here hx rfl (pc0 := 36) (pc' := 54) rfl (hb hby d6_36) (by decide) (by decide) ?_
    refine XS.aloadN X221.here hx rfl (hb hby d6_54) rfl rfl ?_
    refine XS.iloadN X221.here hx rfl (hb hby d6_55) rfl ?_
    refine XS.dloadN X221.here hx rfl (hb hby d6_56) rfl ?_
    refine XS.dload X221.here hx rfl (hb hby d6_57) rfl ?_
    refine XS.iload X221.here hx rfl (hb hby d6_59) rfl ?_
    exact k
  obtain ⟨cq222, q222, q222'⟩ := E_a1.cell
  obtain ⟨_, _, ⟨T222, L222, k222, n222⟩, -, X222, ⟨Lc222, hQ222, l222, y222, z222⟩, st222⟩ := X221.privateBack hx (y := (⟨"com/example/tandemcab/tandemcab/NodeQueue", "place", "(IDDI)V"⟩ : MethodName)) hown (mvT hZ (w_41 hw)) (mvT hZ (w_42 hw)) (ownSel (y := (⟨"com/example/tandemcab/tandemcab/NodeQueue", "place", "(IDDI)V"⟩ : MethodName)) (mvT hZ (w_22 hw)) rfl (Cond.privateMethod_at (mvP hZ (w_43 hw) (args := #[]))) (mvT hZ (w_42 hw)) (by decide)) (Cond.privateMethod_at (mvP hZ (w_43 hw) (args := #[]))) (mvT hZ (w_44 hw)) (by decide) (backOf (W := 0) (rm7t24 l Z a0 hw [] a1 x1 x2 tn ts tm tp kn ks km kp (.int 2) nd1 nd2 (.double y1) s1 s2 (.double y2) m1 m2 p0 p1 p2 u_size h0 n0 Z0 E_a1 F_a1_nodes F_a1_seconds F_a1_metres F_a1_position F_a1_size V_tn V_ts V_tm V_tp g_a1 g_tn g_ts g_tm g_tp ne_a1_tn ne_a1_ts ne_a1_tm ne_a1_tp ne_tn_ts ne_tn_tm ne_tn_tp ne_ts_tm ne_ts_tp ne_tm_tp) hZ (w_44 hw) (w_2 hw) (by decide) (by decide)) (g := (mkF m 61 #[.val (.ref a1), .val (.int 1), .val (.double x1), .second, .val (.double x2), .second, .val (.int 1), .val (.int 0)] [(.int 1), (.double x2), (.double x1), (.int 1), (.ref a1)])) rfl (by rw [hml]; rfl) (Steps.refl _) (a := a1) (by rw [Kq221]; exact q222) q222' (argsL := [(.int 1), (.double x1), (.double x2), (.int 1)]) (rest := []) (lenOf pd_2 rfl) rfl (by show 2 * 0 + _ ≤ _; exact Nat.le_of_eq rfl) (hb hby d6_61) (fun _ _ => ⟨rfl, Kq221, (by decide : 0 + 0 ≤ _), (by decide : 0 + 0 ≤ _)⟩)
  dsimp only [Pt.U, Pt.locs, Pt.cells, Pt.slots] at X222 l222 y222 z222 st222 hQ222
  subst l222 y222 z222
  obtain ⟨rfl, Nq222, Kq222, nF222_a1_nodes, nF222_a1_seconds, nF222_a1_metres, nF222_a1_position, nF222_a1_size, nA222_tn, nA222_ts, nA222_tm, nA222_tp⟩ := hQ222
  replace NF := Fr.app NF Nq222
  clear Nq222
  refine WP.tr st222 ?_
  clear st222
  obtain ⟨h222, e222⟩ : ∃ h, T222.heap = h := ⟨_, rfl⟩
  rw [e222] at Kq222 nF222_a1_nodes nF222_a1_seconds nF222_a1_metres nF222_a1_position nF222_a1_size nA222_tn nA222_ts nA222_tm nA222_tp
  replace E_a1 := E_a1.keep Kq222
  clear F_a1_nodes
  clear F_a1_seconds
  clear F_a1_metres
  clear F_a1_position
  clear F_a1_size
  clear V_tn
  clear V_ts
  clear V_tm
  clear V_tp
  replace Z0 := Nat.le_trans Z0 Kq222.1
  replace KP := KP.trans Kq222 (allS (Or.inl (List.mem_of_getElem? (i := 0) rfl)) (allS (Or.inl (List.mem_of_getElem? (i := 1) rfl)) (allS (Or.inl (List.mem_of_getElem? (i := 2) rfl)) (allS (Or.inl (List.mem_of_getElem? (i := 3) rfl)) (allS (Or.inl (List.mem_of_getElem? (i := 4) rfl)) all0)))))
  clear Kq222
  have F_a1_nodes := nF222_a1_nodes
  clear nF222_a1_nodes
  have F_a1_seconds := nF222_a1_seconds
  clear nF222_a1_seconds
  have F_a1_metres := nF222_a1_metres
  clear nF222_a1_metres
  have F_a1_position := nF222_a1_position
  clear nF222_a1_position
  have F_a1_size := nF222_a1_size
  clear nF222_a1_size
  have V_tn := nA222_tn
  clear nA222_tn
  have V_ts := nA222_ts
  clear nA222_ts
  have V_tm := nA222_tm
  clear nA222_tm
  have V_tp := nA222_tp
  clear nA222_tp
  show WP p.tables e below _ T222 (mkF m 64 #[.val (.ref a1), .val (.int 1), .val (.double x1), .second, .val (.double x2), .second, .val (.int 1), .val (.int 0)] [])
  subst hG
  obtain ⟨fs, hr, hrun, hended, hW, hsame⟩ := X222.leave (v := none) (fun _ => rfl)
  refine WP.fin ⟨_, _, ?_, hrun, hended, _, _, rfl, ?_, ⟨_, rfl⟩, hW, hsame.mono (by decide) (by decide)⟩
  · exact X222.returnOut hx Bd.returns (hb hby d6_64) hr
  · show Q6t23 Z a1 x1 x2 tn ts tm tp kn ks km kp nd1 nd2 y1 s1 s2 y2 m1 m2 p0 p1 p2 u_size h0 n0 _ T222.heap _
    rw [e222]
    exact ⟨rfl, NF, KP, F_a1_nodes, F_a1_seconds, F_a1_metres, F_a1_position, F_a1_size, V_tn, V_ts, V_tm, V_tp⟩
theorem ef_5t22 (m : MethodId) (z0 : Addr) (z2 : UInt64) (z3 : UInt64) : entryFrame m #[(.ref z0), (.int 1), (.double z2), (.double z3)] 7 = mkF m 0 #[.val (.ref z0), .val (.int 1), .val (.double z2), .second, .val (.double z3), .second, .unset] [] := by
  all_goals first | (simp [entryFrame, mkF, argsToLocals, Value.category]; done) | rfl
def Q5t22 (Z : State) (a1 : Addr) (x1 : UInt64) (x2 : UInt64) (tn : Addr) (ts : Addr) (tm : Addr) (tp : Addr) (kn : ClassId) (ks : ClassId) (km : ClassId) (kp : ClassId) (nd1 : Value) (nd2 : Value) (y1 : UInt64) (s1 : Value) (s2 : Value) (y2 : UInt64) (m1 : Value) (m2 : Value) (p0 : Value) (p2 : Value) (h0 : Heap) (n0 : Nat) (v : Option Value) (h : Heap) (L : List Loc) : Prop := v = none ∧ Fr n0 L ∧ Keep h0 h [a1, tn, ts, tm, tp] ∧ Fld Z h a1 "com/example/tandemcab/tandemcab/NodeQueue" "nodes" "[I" (.ref tn) ∧ Fld Z h a1 "com/example/tandemcab/tandemcab/NodeQueue" "seconds" "[D" (.ref ts) ∧ Fld Z h a1 "com/example/tandemcab/tandemcab/NodeQueue" "metres" "[D" (.ref tm) ∧ Fld Z h a1 "com/example/tandemcab/tandemcab/NodeQueue" "position" "[I" (.ref tp) ∧ Fld Z h a1 "com/example/tandemcab/tandemcab/NodeQueue" "size" "I" (.int 2) ∧ (Arv Z h tn kn .int (3 : Int32) [(.int 2), (.int 1), nd2] (.int 0)) ∧ (Arv Z h ts ks .double (3 : Int32) [(.double y1), (.double x1), s2] (.double 0)) ∧ (Arv Z h tm km .double (3 : Int32) [(.double y2), (.double x2), m2] (.double 0)) ∧ (Arv Z h tp kp .int (3 : Int32) [p0, (.int 2), p2] (.int 0))
set_option maxRecDepth 65536 in
set_option maxHeartbeats 40000000 in
theorem rm5t22 (l : Launch) (Z : State) (a0 : Array Value) (hw : ∀ d ∈ tables_1, d.before a0 Z = true) (wsC : List Jvm.Cond) (a1 : Addr) (x1 : UInt64) (x2 : UInt64) (tn : Addr) (ts : Addr) (tm : Addr) (tp : Addr) (kn : ClassId) (ks : ClassId) (km : ClassId) (kp : ClassId) (nd1 : Value) (nd2 : Value) (y1 : UInt64) (s1 : Value) (s2 : Value) (y2 : UInt64) (m1 : Value) (m2 : Value) (p0 : Value) (p2 : Value) (h0 : Heap) (n0 : Nat) (Z0 : n0 ≤ h0.size) (E_a1 : Exa Z h0 a1 "com/example/tandemcab/tandemcab/NodeQueue") (F_a1_nodes : Fld Z h0 a1 "com/example/tandemcab/tandemcab/NodeQueue" "nodes" "[I" (.ref tn)) (F_a1_seconds : Fld Z h0 a1 "com/example/tandemcab/tandemcab/NodeQueue" "seconds" "[D" (.ref ts)) (F_a1_metres : Fld Z h0 a1 "com/example/tandemcab/tandemcab/NodeQueue" "metres" "[D" (.ref tm)) (F_a1_position : Fld Z h0 a1 "com/example/tandemcab/tandemcab/NodeQueue" "position" "[I" (.ref tp)) (F_a1_size : Fld Z h0 a1 "com/example/tandemcab/tandemcab/NodeQueue" "size" "I" (.int 1)) (V_tn : Arv Z h0 tn kn .int (3 : Int32) [(.int 2), nd1, nd2] (.int 0)) (V_ts : Arv Z h0 ts ks .double (3 : Int32) [(.double y1), s1, s2] (.double 0)) (V_tm : Arv Z h0 tm km .double (3 : Int32) [(.double y2), m1, m2] (.double 0)) (V_tp : Arv Z h0 tp kp .int (3 : Int32) [p0, (.int 0), p2] (.int 0)) (g_a1 : n0 ≤ a1) (g_tn : n0 ≤ tn) (g_ts : n0 ≤ ts) (g_tm : n0 ≤ tm) (g_tp : n0 ≤ tp) (ne_a1_tn : a1 ≠ tn) (ne_a1_ts : a1 ≠ ts) (ne_a1_tm : a1 ≠ tm) (ne_a1_tp : a1 ≠ tp) (ne_tn_ts : tn ≠ ts) (ne_tn_tm : tn ≠ tm) (ne_tn_tp : tn ≠ tp) (ne_ts_tm : ts ≠ tm) (ne_ts_tp : ts ≠ tp) (ne_tm_tp : tm ≠ tp) (hbef : (own_before x1 x2 y1 y2) = (0 : Int32)) :
    MetFree l (⟨"com/example/tandemcab/tandemcab/NodeQueue", "offer", "(IDD)V"⟩ : MethodName) (head1 (Jvm.Cond.code (⟨"com/example/tandemcab/tandemcab/NodeQueue", "offer", "(IDD)V"⟩ : MethodName) prog_49_method_5_code 7 none :: wsC) ({ frames := 2, cells := 0, slots := 0, locals := 38 } : Room)) (fun a U => a = #[(.ref a1), (.int 1), (.double x1), (.double x2)] ∧ Z.Warmed39 U.vm ∧ U.heap = h0) (fun _ _ _ _ _ => True) (fun _ U o U' => ∃ v L, o = .returned v ∧ Q5t22 Z a1 x1 x2 tn ts tm tp kn ks km kp nd1 nd2 y1 s1 s2 y2 m1 m2 p0 p2 h0 n0 v U'.heap L ∧ FrameEnd U o U' L ({ frames := 2, cells := 0, slots := 0, locals := 38 } : Room).cells ({ frames := 2, cells := 0, slots := 0, locals := 38 } : Room).slots) := by
  refine MetFree.of_bodySF (plainFor_of_name pn_0) hisR ?_
  intro p e s m args below meth c s₁ Bd hml0 hP hK
  obtain ⟨rfl, hZ, hh⟩ := hP
  have hx := Bd.exec
  have hby := Bd.bytes
  have hml : c.maxLocals = 7 := hml0
  have hown : s.vm.findClass "com/example/tandemcab/tandemcab/NodeQueue" = some m.cls := findClass_of_methodNamed Bd.named
  have hnm := (name_of_methodNamed Bd.named Bd.method).1
  have X0 : Stand p l e ({ frames := 2, cells := 0, slots := 0, locals := 38 } : Room) s m #[(.ref a1), (.int 1), (.double x1), (.double x2)] below meth c s₁ [] 0 0 := Stand.of_body Bd
  have e0 : s₁.heap = h0 := by rw [← hh, Bd.state]; rfl
  have NF := Fr.nil n0
  have KP : Keep h0 h0 [a1, tn, ts, tm, tp] := Keep.refl h0 _
  refine WP.go ?_
  refine WP.cast (ef_5t22 m a1 x1 x2) ?_
  refine WP.name ?_
  intro G hG
  refine WP.st (T' := s₁) (f' := (mkF m 1 #[.val (.ref a1), .val (.int 1), .val (.double x1), .second, .val (.double x2), .second, .unset] [(.ref a1)])) (fun t k => ?_) ?_
  · refine XS.aloadN X0.here hx rfl (hb hby d5_0) rfl rfl ?_
    exact k
  obtain ⟨T223, X223, e223, st223⟩ := getF X0 hx hZ hown (host := "") (Or.inl (w_17 hw)) Via.refl e0 F_a1_position (g := (mkF m 1 #[.val (.ref a1), .val (.int 1), .val (.double x1), .second, .val (.double x2), .second, .unset] [(.ref a1)])) rfl rfl (hb hby d5_1)
  refine WP.st st223 ?_
  clear st223
  show WP p.tables e below _ T223 (mkF m 4 #[.val (.ref a1), .val (.int 1), .val (.double x1), .second, .val (.double x2), .second, .unset] [(.ref tp)])
  refine WP.st (T' := T223) (f' := (mkF m 5 #[.val (.ref a1), .val (.int 1), .val (.double x1), .second, .val (.double x2), .second, .unset] [(.int 1), (.ref tp)])) (fun t k => ?_) ?_
  · refine XS.iloadN X223.here hx rfl (hb hby d5_4) rfl ?_
    exact k
  obtain ⟨cl224, Ar224, hin224, hat224, -⟩ := V_tp.rd (j := (1 : Int32)) ⟨by decide, by decide⟩
  replace hat224 : cl224.slots[((1 : Int32)).toNatClampNeg]? = some (.int 0) := hat224
  refine WP.st (T' := T223) (f' := (mkF m 8 #[.val (.ref a1), .val (.int 1), .val (.double x1), .second, .val (.double x2), .second, .unset] [(.int ((0 : Int32) - (1 : Int32)))])) (fun t k => ?_) ?_
  · refine X223.iaload hx (j := (1 : Int32)) (v := (.int 0)) (by rw [e223]; exact Ar224.1) (State.isArrayOf_alike hZ.alike Ar224.2.1) Ar224.2.2 hin224 hat224 (g := (mkF m 5 #[.val (.ref a1), .val (.int 1), .val (.double x1), .second, .val (.double x2), .second, .unset] [(.int 1), (.ref tp)])) rfl rfl (hb hby d5_5) _ ?_
    refine XS.iconst X223.here hx rfl (hb hby d5_6) ?_
    refine XS.isub X223.here hx rfl (hb hby d5_7) rfl ?_
    exact k
  rw [show ((0 : Int32) - (1 : Int32)) = (-1 : Int32) from by decide]
  show WP p.tables e below _ T223 (mkF m 8 #[.val (.ref a1), .val (.int 1), .val (.double x1), .second, .val (.double x2), .second, .unset] [(.int (-1))])
  refine WP.st (T' := T223) (f' := (mkF m 22 #[.val (.ref a1), .val (.int 1), .val (.double x1), .second, .val (.double x2), .second, .val (.int (-1))] [(.ref a1), (.ref a1), (.double x2), (.double x1), (.int 1), (.ref a1)])) (fun t k => ?_) ?_
  · refine XS.istore X223.here hx rfl (hb hby d5_8) rfl (l' := #[.val (.ref a1), .val (.int 1), .val (.double x1), .second, .val (.double x2), .second, .val (.int (-1))]) rfl ?_
    refine XS.iload X223.here hx rfl (hb hby d5_10) rfl ?_
    refine XS.ifNo X223.here hx rfl (hb hby d5_12) rfl ((if0 _ _).trans (tlt (by decide : (-1 : Int32) < (0 : Int32))).2.1) ?_
    refine XS.aloadN X223.here hx rfl (hb hby d5_15) rfl rfl ?_
    refine XS.iloadN X223.here hx rfl (hb hby d5_16) rfl ?_
    refine XS.dloadN X223.here hx rfl (hb hby d5_17) rfl ?_
    refine XS.dload X223.here hx rfl (hb hby d5_18) rfl ?_
    refine XS.aloadN X223.here hx rfl (hb hby d5_20) rfl rfl ?_
    show Steps p.tables e below (T223.setTop (mkF m 21 #[.val (.ref a1), .val (.int 1), .val (.double x1), .second, .val (.double x2), .second, .val (.int (-1))] [(.ref a1), (.double x2), (.double x1), (.int 1), (.ref a1)])) t
    refine XS.dup X223.here hx rfl (hb hby d5_21) rfl rfl ?_
    exact k
  obtain ⟨T225, X225, e225, st225⟩ := getF X223 hx hZ hown (host := "") (Or.inl (w_24 hw)) Via.refl e223 F_a1_size (g := (mkF m 22 #[.val (.ref a1), .val (.int 1), .val (.double x1), .second, .val (.double x2), .second, .val (.int (-1))] [(.ref a1), (.ref a1), (.double x2), (.double x1), (.int 1), (.ref a1)])) rfl rfl (hb hby d5_22)
  refine WP.st st225 ?_
  clear st225
  show WP p.tables e below _ T225 (mkF m 25 #[.val (.ref a1), .val (.int 1), .val (.double x1), .second, .val (.double x2), .second, .val (.int (-1))] [(.int 1), (.ref a1), (.double x2), (.double x1), (.int 1), (.ref a1)])
  refine WP.st (T' := T225) (f' := (mkF m 28 #[.val (.ref a1), .val (.int 1), .val (.double x1), .second, .val (.double x2), .second, .val (.int (-1))] [(.int ((1 : Int32) + (1 : Int32))), (.ref a1), (.int 1), (.double x2), (.double x1), (.int 1), (.ref a1)])) (fun t k => ?_) ?_
  · refine XS.dupX1 X225.here hx rfl (hb hby d5_25) rfl rfl rfl ?_
    refine XS.iconst X225.here hx rfl (hb hby d5_26) ?_
    refine XS.iadd X225.here hx rfl (hb hby d5_27) rfl ?_
    exact k
  rw [show ((1 : Int32) + (1 : Int32)) = (2 : Int32) from by decide]
  show WP p.tables e below _ T225 (mkF m 28 #[.val (.ref a1), .val (.int 1), .val (.double x1), .second, .val (.double x2), .second, .val (.int (-1))] [(.int 2), (.ref a1), (.int 1), (.double x2), (.double x1), (.int 1), (.ref a1)])
  obtain ⟨T226, h226, X226, e226, W226, st226⟩ := putF X225 hx hZ hown (host := "") (Or.inl (w_24 hw)) Via.refl e225 F_a1_size E_a1 (Or.inl (w_25 hw)) (w_1 hw) (ty := .int) (by decide) rfl rfl (g := (mkF m 28 #[.val (.ref a1), .val (.int 1), .val (.double x1), .second, .val (.double x2), .second, .val (.int (-1))] [(.int 2), (.ref a1), (.int 1), (.double x2), (.double x1), (.int 1), (.ref a1)])) rfl rfl (hb hby d5_28)
  refine WP.st st226 ?_
  clear st226
  replace E_a1 := E_a1.wr W226
  replace F_a1_nodes := F_a1_nodes.other W226 (Or.inr (sn_16 hw))
  replace F_a1_seconds := F_a1_seconds.other W226 (Or.inr (sn_17 hw))
  replace F_a1_metres := F_a1_metres.other W226 (Or.inr (sn_18 hw))
  replace F_a1_position := F_a1_position.other W226 (Or.inr (sn_19 hw))
  replace F_a1_size := F_a1_size.same W226
  replace V_tn := V_tn.other W226 (Ne.symm ne_a1_tn)
  replace V_ts := V_ts.other W226 (Ne.symm ne_a1_ts)
  replace V_tm := V_tm.other W226 (Ne.symm ne_a1_tm)
  replace V_tp := V_tp.other W226 (Ne.symm ne_a1_tp)
  replace Z0 := Nat.le_trans Z0 (Keep.of_wr W226).1
  replace KP := KP.wr W226 (Or.inl (List.mem_of_getElem? (i := 0) rfl))
  replace NF := Fr.snoc X226 NF g_a1
  clear W226
  show WP p.tables e below _ T226 (mkF m 31 #[.val (.ref a1), .val (.int 1), .val (.double x1), .second, .val (.double x2), .second, .val (.int (-1))] [(.int 1), (.double x2), (.double x1), (.int 1), (.ref a1)])
  obtain ⟨cq227, q227, q227'⟩ := E_a1.cell
  obtain ⟨_, _, ⟨T227, L227, k227, n227⟩, -, X227, ⟨Lc227, hQ227, l227, y227, z227⟩, st227⟩ := X226.privateBack hx (y := (⟨"com/example/tandemcab/tandemcab/NodeQueue", "up", "(IDDI)V"⟩ : MethodName)) hown (mvT hZ (w_37 hw)) (mvT hZ (w_38 hw)) (ownSel (y := (⟨"com/example/tandemcab/tandemcab/NodeQueue", "up", "(IDDI)V"⟩ : MethodName)) (mvT hZ (w_22 hw)) rfl (Cond.privateMethod_at (mvP hZ (w_39 hw) (args := #[]))) (mvT hZ (w_38 hw)) (by decide)) (Cond.privateMethod_at (mvP hZ (w_39 hw) (args := #[]))) (mvT hZ (w_40 hw)) (by decide) (backOf (W := 0) (rm6t23 l Z a0 hw [] a1 x1 x2 tn ts tm tp kn ks km kp nd1 nd2 y1 s1 s2 y2 m1 m2 p0 (.int 0) p2 (2 : Int32) h226 n0 Z0 E_a1 F_a1_nodes F_a1_seconds F_a1_metres F_a1_position F_a1_size V_tn V_ts V_tm V_tp g_a1 g_tn g_ts g_tm g_tp ne_a1_tn ne_a1_ts ne_a1_tm ne_a1_tp ne_tn_ts ne_tn_tm ne_tn_tp ne_ts_tm ne_ts_tp ne_tm_tp hbef) hZ (w_40 hw) (w_2 hw) (by decide) (by decide)) (g := (mkF m 31 #[.val (.ref a1), .val (.int 1), .val (.double x1), .second, .val (.double x2), .second, .val (.int (-1))] [(.int 1), (.double x2), (.double x1), (.int 1), (.ref a1)])) rfl (by rw [hml]; rfl) (Steps.refl _) (a := a1) (by rw [e226]; exact q227) q227' (argsL := [(.int 1), (.double x1), (.double x2), (.int 1)]) (rest := []) (lenOf pd_2 rfl) rfl (by show 2 * 0 + _ ≤ _; exact Nat.le_of_eq rfl) (hb hby d5_31) (fun _ _ => ⟨rfl, e226, (by decide : 0 + 0 ≤ _), (by decide : 0 + 0 ≤ _)⟩)
  dsimp only [Pt.U, Pt.locs, Pt.cells, Pt.slots] at X227 l227 y227 z227 st227 hQ227
  subst l227 y227 z227
  obtain ⟨rfl, Nq227, Kq227, nF227_a1_nodes, nF227_a1_seconds, nF227_a1_metres, nF227_a1_position, nF227_a1_size, nA227_tn, nA227_ts, nA227_tm, nA227_tp⟩ := hQ227
  replace NF := Fr.app NF Nq227
  clear Nq227
  refine WP.tr st227 ?_
  clear st227
  obtain ⟨h227, e227⟩ : ∃ h, T227.heap = h := ⟨_, rfl⟩
  rw [e227] at Kq227 nF227_a1_nodes nF227_a1_seconds nF227_a1_metres nF227_a1_position nF227_a1_size nA227_tn nA227_ts nA227_tm nA227_tp
  replace E_a1 := E_a1.keep Kq227
  clear F_a1_nodes
  clear F_a1_seconds
  clear F_a1_metres
  clear F_a1_position
  clear F_a1_size
  clear V_tn
  clear V_ts
  clear V_tm
  clear V_tp
  replace Z0 := Nat.le_trans Z0 Kq227.1
  replace KP := KP.trans Kq227 (allS (Or.inl (List.mem_of_getElem? (i := 0) rfl)) (allS (Or.inl (List.mem_of_getElem? (i := 1) rfl)) (allS (Or.inl (List.mem_of_getElem? (i := 2) rfl)) (allS (Or.inl (List.mem_of_getElem? (i := 3) rfl)) (allS (Or.inl (List.mem_of_getElem? (i := 4) rfl)) all0)))))
  clear Kq227
  have F_a1_nodes := nF227_a1_nodes
  clear nF227_a1_nodes
  have F_a1_seconds := nF227_a1_seconds
  clear nF227_a1_seconds
  have F_a1_metres := nF227_a1_metres
  clear nF227_a1_metres
  have F_a1_position := nF227_a1_position
  clear nF227_a1_position
  have F_a1_size := nF227_a1_size
  clear nF227_a1_size
  have V_tn := nA227_tn
  clear nA227_tn
  have V_ts := nA227_ts
  clear nA227_ts
  have V_tm := nA227_tm
  clear nA227_tm
  have V_tp := nA227_tp
  clear nA227_tp
  show WP p.tables e below _ T227 (mkF m 34 #[.val (.ref a1), .val (.int 1), .val (.double x1), .second, .val (.double x2), .second, .val (.int (-1))] [])
  refine WP.st (T' := T227) (f' := (mkF m 83 #[.val (.ref a1), .val (.int 1), .val (.double x1), .second, .val (.double x2), .second, .val (.int (-1))] [])) (fun t k => ?_) ?_
  · refine XS.goto X227.here hx rfl (pc0 := 34) (pc' := 83) rfl (hb hby d5_34) (by decide) (by decide) ?_
    exact k
  subst hG
  obtain ⟨fs, hr, hrun, hended, hW, hsame⟩ := X227.leave (v := none) (fun _ => rfl)
  refine WP.fin ⟨_, _, ?_, hrun, hended, _, _, rfl, ?_, ⟨_, rfl⟩, hW, hsame.mono (by decide) (by decide)⟩
  · exact X227.returnOut hx Bd.returns (hb hby d5_83) hr
  · show Q5t22 Z a1 x1 x2 tn ts tm tp kn ks km kp nd1 nd2 y1 s1 s2 y2 m1 m2 p0 p2 h0 n0 _ T227.heap _
    rw [e227]
    exact ⟨rfl, NF, KP, F_a1_nodes, F_a1_seconds, F_a1_metres, F_a1_position, F_a1_size, V_tn, V_ts, V_tm, V_tp⟩
theorem ef_3t25 (m : MethodId) (z0 : Addr) : entryFrame m #[(.ref z0)] 2 = mkF m 0 #[.val (.ref z0), .unset] [] := by
  all_goals first | (simp [entryFrame, mkF, argsToLocals, Value.category]; done) | rfl
def Q3t25 (Z : State) (a1 : Addr) (tn : Addr) (ts : Addr) (tm : Addr) (tp : Addr) (kn : ClassId) (ks : ClassId) (km : ClassId) (kp : ClassId) (nd2 : Value) (s0 : Value) (s1 : Value) (s2 : Value) (m0 : Value) (m1 : Value) (m2 : Value) (p0 : Value) (p1 : Value) (p2 : Value) (h0 : Heap) (n0 : Nat) (v : Option Value) (h : Heap) (L : List Loc) : Prop := v = none ∧ Fr n0 L ∧ Keep h0 h [a1, tn, ts, tm, tp] ∧ Fld Z h a1 "com/example/tandemcab/tandemcab/NodeQueue" "nodes" "[I" (.ref tn) ∧ Fld Z h a1 "com/example/tandemcab/tandemcab/NodeQueue" "seconds" "[D" (.ref ts) ∧ Fld Z h a1 "com/example/tandemcab/tandemcab/NodeQueue" "metres" "[D" (.ref tm) ∧ Fld Z h a1 "com/example/tandemcab/tandemcab/NodeQueue" "position" "[I" (.ref tp) ∧ Fld Z h a1 "com/example/tandemcab/tandemcab/NodeQueue" "size" "I" (.int 0) ∧ (Arv Z h tn kn .int (3 : Int32) [(.int 2), (.int 1), nd2] (.int 0)) ∧ (Arv Z h ts ks .double (3 : Int32) [s0, s1, s2] (.double 0)) ∧ (Arv Z h tm km .double (3 : Int32) [m0, m1, m2] (.double 0)) ∧ (Arv Z h tp kp .int (3 : Int32) [p0, (.int 0), (.int 0)] (.int 0))
set_option maxRecDepth 65536 in
set_option maxHeartbeats 40000000 in
theorem rm3t25 (l : Launch) (Z : State) (a0 : Array Value) (hw : ∀ d ∈ tables_1, d.before a0 Z = true) (wsC : List Jvm.Cond) (a1 : Addr) (tn : Addr) (ts : Addr) (tm : Addr) (tp : Addr) (kn : ClassId) (ks : ClassId) (km : ClassId) (kp : ClassId) (nd2 : Value) (s0 : Value) (s1 : Value) (s2 : Value) (m0 : Value) (m1 : Value) (m2 : Value) (p0 : Value) (p1 : Value) (p2 : Value) (h0 : Heap) (n0 : Nat) (Z0 : n0 ≤ h0.size) (E_a1 : Exa Z h0 a1 "com/example/tandemcab/tandemcab/NodeQueue") (F_a1_nodes : Fld Z h0 a1 "com/example/tandemcab/tandemcab/NodeQueue" "nodes" "[I" (.ref tn)) (F_a1_seconds : Fld Z h0 a1 "com/example/tandemcab/tandemcab/NodeQueue" "seconds" "[D" (.ref ts)) (F_a1_metres : Fld Z h0 a1 "com/example/tandemcab/tandemcab/NodeQueue" "metres" "[D" (.ref tm)) (F_a1_position : Fld Z h0 a1 "com/example/tandemcab/tandemcab/NodeQueue" "position" "[I" (.ref tp)) (F_a1_size : Fld Z h0 a1 "com/example/tandemcab/tandemcab/NodeQueue" "size" "I" (.int 2)) (V_tn : Arv Z h0 tn kn .int (3 : Int32) [(.int 2), (.int 1), nd2] (.int 0)) (V_ts : Arv Z h0 ts ks .double (3 : Int32) [s0, s1, s2] (.double 0)) (V_tm : Arv Z h0 tm km .double (3 : Int32) [m0, m1, m2] (.double 0)) (V_tp : Arv Z h0 tp kp .int (3 : Int32) [p0, p1, p2] (.int 0)) (g_a1 : n0 ≤ a1) (g_tn : n0 ≤ tn) (g_ts : n0 ≤ ts) (g_tm : n0 ≤ tm) (g_tp : n0 ≤ tp) (ne_a1_tn : a1 ≠ tn) (ne_a1_ts : a1 ≠ ts) (ne_a1_tm : a1 ≠ tm) (ne_a1_tp : a1 ≠ tp) (ne_tn_ts : tn ≠ ts) (ne_tn_tm : tn ≠ tm) (ne_tn_tp : tn ≠ tp) (ne_ts_tm : ts ≠ tm) (ne_ts_tp : ts ≠ tp) (ne_tm_tp : tm ≠ tp) :
    MetFree l (⟨"com/example/tandemcab/tandemcab/NodeQueue", "clear", "()V"⟩ : MethodName) (head1 (Jvm.Cond.code (⟨"com/example/tandemcab/tandemcab/NodeQueue", "clear", "()V"⟩ : MethodName) prog_49_method_3_code 2 none :: wsC) ({ frames := 0, cells := 0, slots := 0, locals := 0 } : Room)) (fun a U => a = #[(.ref a1)] ∧ Z.Warmed39 U.vm ∧ U.heap = h0) (fun _ _ _ _ _ => True) (fun _ U o U' => ∃ v L, o = .returned v ∧ Q3t25 Z a1 tn ts tm tp kn ks km kp nd2 s0 s1 s2 m0 m1 m2 p0 p1 p2 h0 n0 v U'.heap L ∧ FrameEnd U o U' L ({ frames := 0, cells := 0, slots := 0, locals := 0 } : Room).cells ({ frames := 0, cells := 0, slots := 0, locals := 0 } : Room).slots) := by
  refine MetFree.of_bodySF (plainFor_of_name pn_0) hisR ?_
  intro p e s m args below meth c s₁ Bd hml0 hP hK
  obtain ⟨rfl, hZ, hh⟩ := hP
  have hx := Bd.exec
  have hby := Bd.bytes
  have hml : c.maxLocals = 2 := hml0
  have hown : s.vm.findClass "com/example/tandemcab/tandemcab/NodeQueue" = some m.cls := findClass_of_methodNamed Bd.named
  have hnm := (name_of_methodNamed Bd.named Bd.method).1
  have X0 : Stand p l e ({ frames := 0, cells := 0, slots := 0, locals := 0 } : Room) s m #[(.ref a1)] below meth c s₁ [] 0 0 := Stand.of_body Bd
  have e0 : s₁.heap = h0 := by rw [← hh, Bd.state]; rfl
  have NF := Fr.nil n0
  have KP : Keep h0 h0 [a1, tn, ts, tm, tp] := Keep.refl h0 _
  refine WP.go ?_
  refine WP.cast (ef_3t25 m a1) ?_
  refine WP.name ?_
  intro G hG
  refine WP.st (T' := s₁) (f' := (mkF m 4 #[.val (.ref a1), .val (.int 0)] [(.ref a1), (.int 0)])) (fun t k => ?_) ?_
  · refine XS.iconst X0.here hx rfl (hb hby d3_0) ?_
    refine XS.istoreN X0.here hx rfl (hb hby d3_1) rfl (l' := #[.val (.ref a1), .val (.int 0)]) rfl ?_
    refine XS.iloadN X0.here hx rfl (hb hby d3_2) rfl ?_
    refine XS.aloadN X0.here hx rfl (hb hby d3_3) rfl rfl ?_
    exact k
  obtain ⟨T229, X229, e229, st229⟩ := getF X0 hx hZ hown (host := "") (Or.inl (w_24 hw)) Via.refl e0 F_a1_size (g := (mkF m 4 #[.val (.ref a1), .val (.int 0)] [(.ref a1), (.int 0)])) rfl rfl (hb hby d3_4)
  refine WP.st st229 ?_
  clear st229
  show WP p.tables e below _ T229 (mkF m 7 #[.val (.ref a1), .val (.int 0)] [(.int 2), (.int 0)])
  refine WP.st (T' := T229) (f' := (mkF m 11 #[.val (.ref a1), .val (.int 0)] [(.ref a1)])) (fun t k => ?_) ?_
  · refine XS.icmpNo X229.here hx rfl (hb hby d3_7) rfl (tlt (by decide : (0 : Int32) < (2 : Int32))).2.1 ?_
    refine XS.aloadN X229.here hx rfl (hb hby d3_10) rfl rfl ?_
    exact k
  obtain ⟨T230, X230, e230, st230⟩ := getF X229 hx hZ hown (host := "") (Or.inl (w_17 hw)) Via.refl e229 F_a1_position (g := (mkF m 11 #[.val (.ref a1), .val (.int 0)] [(.ref a1)])) rfl rfl (hb hby d3_11)
  refine WP.st st230 ?_
  clear st230
  show WP p.tables e below _ T230 (mkF m 14 #[.val (.ref a1), .val (.int 0)] [(.ref tp)])
  refine WP.st (T' := T230) (f' := (mkF m 15 #[.val (.ref a1), .val (.int 0)] [(.ref a1), (.ref tp)])) (fun t k => ?_) ?_
  · refine XS.aloadN X230.here hx rfl (hb hby d3_14) rfl rfl ?_
    exact k
  obtain ⟨T231, X231, e231, st231⟩ := getF X230 hx hZ hown (host := "") (Or.inl (w_10 hw)) Via.refl e230 F_a1_nodes (g := (mkF m 15 #[.val (.ref a1), .val (.int 0)] [(.ref a1), (.ref tp)])) rfl rfl (hb hby d3_15)
  refine WP.st st231 ?_
  clear st231
  show WP p.tables e below _ T231 (mkF m 18 #[.val (.ref a1), .val (.int 0)] [(.ref tn), (.ref tp)])
  refine WP.st (T' := T231) (f' := (mkF m 19 #[.val (.ref a1), .val (.int 0)] [(.int 0), (.ref tn), (.ref tp)])) (fun t k => ?_) ?_
  · refine XS.iloadN X231.here hx rfl (hb hby d3_18) rfl ?_
    exact k
  obtain ⟨cl232, Ar232, hin232, hat232, -⟩ := V_tn.rd (j := (0 : Int32)) ⟨by decide, by decide⟩
  replace hat232 : cl232.slots[((0 : Int32)).toNatClampNeg]? = some (.int 2) := hat232
  refine WP.st (T' := T231) (f' := (mkF m 21 #[.val (.ref a1), .val (.int 0)] [(.int 0), (.int 2), (.ref tp)])) (fun t k => ?_) ?_
  · refine X231.iaload hx (j := (0 : Int32)) (v := (.int 2)) (by rw [e231]; exact Ar232.1) (State.isArrayOf_alike hZ.alike Ar232.2.1) Ar232.2.2 hin232 hat232 (g := (mkF m 19 #[.val (.ref a1), .val (.int 0)] [(.int 0), (.ref tn), (.ref tp)])) rfl rfl (hb hby d3_19) _ ?_
    refine XS.iconst X231.here hx rfl (hb hby d3_20) ?_
    exact k
  obtain ⟨cl233, Ar233, q233, S233, N233, H233, G233⟩ := V_tp
  have hin233 : ¬ ((2 : Int32) < 0 ∨ cl233.slots.size ≤ ((2 : Int32)).toNatClampNeg) := inb_of S233 ⟨by decide, by decide⟩
  obtain ⟨T234, h234, X234, e234, W234, st234⟩ := stI X231 hx hZ e231 Ar233 (j := (2 : Int32)) hin233 (g := (mkF m 21 #[.val (.ref a1), .val (.int 0)] [(.int 0), (.int 2), (.ref tp)])) rfl rfl (hb hby d3_21)
  refine WP.st st234 ?_
  clear st234
  have Vn : Arv Z h234 tp kp .int (3 : Int32) [p0, p1, (.int 0)] (.int 0) := Arv.set Ar233 q233 S233 N233 H233 G233 rfl W234 2 rfl (Nat.le_of_ble_eq_true rfl)
  replace E_a1 := E_a1.wr W234
  replace F_a1_nodes := F_a1_nodes.other W234 (Or.inl ne_a1_tp)
  replace F_a1_seconds := F_a1_seconds.other W234 (Or.inl ne_a1_tp)
  replace F_a1_metres := F_a1_metres.other W234 (Or.inl ne_a1_tp)
  replace F_a1_position := F_a1_position.other W234 (Or.inl ne_a1_tp)
  replace F_a1_size := F_a1_size.other W234 (Or.inl ne_a1_tp)
  replace V_tn := V_tn.other W234 ne_tn_tp
  replace V_ts := V_ts.other W234 ne_ts_tp
  replace V_tm := V_tm.other W234 ne_tm_tp
  replace Z0 := Nat.le_trans Z0 (Keep.of_wr W234).1
  replace KP := KP.wr W234 (Or.inl (List.mem_of_getElem? (i := 4) rfl))
  replace V_tp := Vn
  replace NF := Fr.snoc X234 NF g_tp
  clear W234 hin233 q233 S233 N233 H233 G233 Ar233
  show WP p.tables e below _ T234 (mkF m 22 #[.val (.ref a1), .val (.int 0)] [])
  refine WP.st (T' := T234) (f' := (mkF m 25 #[.val (.ref a1), .val (.int ((0 : Int32) + (1 : Int32)))] [])) (fun t k => ?_) ?_
  · refine XS.iinc X234.here hx rfl (hb hby d3_22) rfl (l' := #[.val (.ref a1), .val (.int ((0 : Int32) + (1 : Int32)))]) rfl ?_
    exact k
  rw [show ((0 : Int32) + (1 : Int32)) = (1 : Int32) from by decide]
  show WP p.tables e below _ T234 (mkF m 25 #[.val (.ref a1), .val (.int 1)] [])
  refine WP.st (T' := T234) (f' := (mkF m 4 #[.val (.ref a1), .val (.int 1)] [(.ref a1), (.int 1)])) (fun t k => ?_) ?_
  · refine XS.goto X234.here hx rfl (pc0 := 25) (pc' := 2) rfl (hb hby d3_25) (by decide) (by decide) ?_
    refine XS.iloadN X234.here hx rfl (hb hby d3_2) rfl ?_
    refine XS.aloadN X234.here hx rfl (hb hby d3_3) rfl rfl ?_
    exact k
  obtain ⟨T235, X235, e235, st235⟩ := getF X234 hx hZ hown (host := "") (Or.inl (w_24 hw)) Via.refl e234 F_a1_size (g := (mkF m 4 #[.val (.ref a1), .val (.int 1)] [(.ref a1), (.int 1)])) rfl rfl (hb hby d3_4)
  refine WP.st st235 ?_
  clear st235
  show WP p.tables e below _ T235 (mkF m 7 #[.val (.ref a1), .val (.int 1)] [(.int 2), (.int 1)])
  refine WP.st (T' := T235) (f' := (mkF m 11 #[.val (.ref a1), .val (.int 1)] [(.ref a1)])) (fun t k => ?_) ?_
  · refine XS.icmpNo X235.here hx rfl (hb hby d3_7) rfl (tlt (by decide : (1 : Int32) < (2 : Int32))).2.1 ?_
    refine XS.aloadN X235.here hx rfl (hb hby d3_10) rfl rfl ?_
    exact k
  obtain ⟨T236, X236, e236, st236⟩ := getF X235 hx hZ hown (host := "") (Or.inl (w_17 hw)) Via.refl e235 F_a1_position (g := (mkF m 11 #[.val (.ref a1), .val (.int 1)] [(.ref a1)])) rfl rfl (hb hby d3_11)
  refine WP.st st236 ?_
  clear st236
  show WP p.tables e below _ T236 (mkF m 14 #[.val (.ref a1), .val (.int 1)] [(.ref tp)])
  refine WP.st (T' := T236) (f' := (mkF m 15 #[.val (.ref a1), .val (.int 1)] [(.ref a1), (.ref tp)])) (fun t k => ?_) ?_
  · refine XS.aloadN X236.here hx rfl (hb hby d3_14) rfl rfl ?_
    exact k
  obtain ⟨T237, X237, e237, st237⟩ := getF X236 hx hZ hown (host := "") (Or.inl (w_10 hw)) Via.refl e236 F_a1_nodes (g := (mkF m 15 #[.val (.ref a1), .val (.int 1)] [(.ref a1), (.ref tp)])) rfl rfl (hb hby d3_15)
  refine WP.st st237 ?_
  clear st237
  show WP p.tables e below _ T237 (mkF m 18 #[.val (.ref a1), .val (.int 1)] [(.ref tn), (.ref tp)])
  refine WP.st (T' := T237) (f' := (mkF m 19 #[.val (.ref a1), .val (.int 1)] [(.int 1), (.ref tn), (.ref tp)])) (fun t k => ?_) ?_
  · refine XS.iloadN X237.here hx rfl (hb hby d3_18) rfl ?_
    exact k
  obtain ⟨cl238, Ar238, hin238, hat238, -⟩ := V_tn.rd (j := (1 : Int32)) ⟨by decide, by decide⟩
  replace hat238 : cl238.slots[((1 : Int32)).toNatClampNeg]? = some (.int 1) := hat238
  refine WP.st (T' := T237) (f' := (mkF m 21 #[.val (.ref a1), .val (.int 1)] [(.int 0), (.int 1), (.ref tp)])) (fun t k => ?_) ?_
  · refine X237.iaload hx (j := (1 : Int32)) (v := (.int 1)) (by rw [e237]; exact Ar238.1) (State.isArrayOf_alike hZ.alike Ar238.2.1) Ar238.2.2 hin238 hat238 (g := (mkF m 19 #[.val (.ref a1), .val (.int 1)] [(.int 1), (.ref tn), (.ref tp)])) rfl rfl (hb hby d3_19) _ ?_
    refine XS.iconst X237.here hx rfl (hb hby d3_20) ?_
    exact k
  obtain ⟨cl239, Ar239, q239, S239, N239, H239, G239⟩ := V_tp
  have hin239 : ¬ ((1 : Int32) < 0 ∨ cl239.slots.size ≤ ((1 : Int32)).toNatClampNeg) := inb_of S239 ⟨by decide, by decide⟩
  obtain ⟨T240, h240, X240, e240, W240, st240⟩ := stI X237 hx hZ e237 Ar239 (j := (1 : Int32)) hin239 (g := (mkF m 21 #[.val (.ref a1), .val (.int 1)] [(.int 0), (.int 1), (.ref tp)])) rfl rfl (hb hby d3_21)
  refine WP.st st240 ?_
  clear st240
  have Vn : Arv Z h240 tp kp .int (3 : Int32) [p0, (.int 0), (.int 0)] (.int 0) := Arv.set Ar239 q239 S239 N239 H239 G239 rfl W240 1 rfl (Nat.le_of_ble_eq_true rfl)
  replace E_a1 := E_a1.wr W240
  replace F_a1_nodes := F_a1_nodes.other W240 (Or.inl ne_a1_tp)
  replace F_a1_seconds := F_a1_seconds.other W240 (Or.inl ne_a1_tp)
  replace F_a1_metres := F_a1_metres.other W240 (Or.inl ne_a1_tp)
  replace F_a1_position := F_a1_position.other W240 (Or.inl ne_a1_tp)
  replace F_a1_size := F_a1_size.other W240 (Or.inl ne_a1_tp)
  replace V_tn := V_tn.other W240 ne_tn_tp
  replace V_ts := V_ts.other W240 ne_ts_tp
  replace V_tm := V_tm.other W240 ne_tm_tp
  replace Z0 := Nat.le_trans Z0 (Keep.of_wr W240).1
  replace KP := KP.wr W240 (Or.inl (List.mem_of_getElem? (i := 4) rfl))
  replace V_tp := Vn
  replace NF := Fr.snoc X240 NF g_tp
  clear W240 hin239 q239 S239 N239 H239 G239 Ar239
  show WP p.tables e below _ T240 (mkF m 22 #[.val (.ref a1), .val (.int 1)] [])
  refine WP.st (T' := T240) (f' := (mkF m 25 #[.val (.ref a1), .val (.int ((1 : Int32) + (1 : Int32)))] [])) (fun t k => ?_) ?_
  · refine XS.iinc X240.here hx rfl (hb hby d3_22) rfl (l' := #[.val (.ref a1), .val (.int ((1 : Int32) + (1 : Int32)))]) rfl ?_
    exact k
  rw [show ((1 : Int32) + (1 : Int32)) = (2 : Int32) from by decide]
  show WP p.tables e below _ T240 (mkF m 25 #[.val (.ref a1), .val (.int 2)] [])
  refine WP.st (T' := T240) (f' := (mkF m 4 #[.val (.ref a1), .val (.int 2)] [(.ref a1), (.int 2)])) (fun t k => ?_) ?_
  · refine XS.goto X240.here hx rfl (pc0 := 25) (pc' := 2) rfl (hb hby d3_25) (by decide) (by decide) ?_
    refine XS.iloadN X240.here hx rfl (hb hby d3_2) rfl ?_
    refine XS.aloadN X240.here hx rfl (hb hby d3_3) rfl rfl ?_
    exact k
  obtain ⟨T241, X241, e241, st241⟩ := getF X240 hx hZ hown (host := "") (Or.inl (w_24 hw)) Via.refl e240 F_a1_size (g := (mkF m 4 #[.val (.ref a1), .val (.int 2)] [(.ref a1), (.int 2)])) rfl rfl (hb hby d3_4)
  refine WP.st st241 ?_
  clear st241
  show WP p.tables e below _ T241 (mkF m 7 #[.val (.ref a1), .val (.int 2)] [(.int 2), (.int 2)])
  refine WP.st (T' := T241) (f' := (mkF m 30 #[.val (.ref a1), .val (.int 2)] [(.int 0), (.ref a1)])) (fun t k => ?_) ?_
  · refine XS.icmpYes X241.here hx rfl (pc0 := 7) (pc' := 28) rfl (hb hby d3_7) rfl (flt (by decide : ¬ ((2 : Int32) < (2 : Int32)))).2.1 (by decide) (by decide) ?_
    refine XS.aloadN X241.here hx rfl (hb hby d3_28) rfl rfl ?_
    refine XS.iconst X241.here hx rfl (hb hby d3_29) ?_
    exact k
  obtain ⟨T242, h242, X242, e242, W242, st242⟩ := putF X241 hx hZ hown (host := "") (Or.inl (w_24 hw)) Via.refl e241 F_a1_size E_a1 (Or.inl (w_25 hw)) (w_1 hw) (ty := .int) (by decide) rfl rfl (g := (mkF m 30 #[.val (.ref a1), .val (.int 2)] [(.int 0), (.ref a1)])) rfl rfl (hb hby d3_30)
  refine WP.st st242 ?_
  clear st242
  replace E_a1 := E_a1.wr W242
  replace F_a1_nodes := F_a1_nodes.other W242 (Or.inr (sn_16 hw))
  replace F_a1_seconds := F_a1_seconds.other W242 (Or.inr (sn_17 hw))
  replace F_a1_metres := F_a1_metres.other W242 (Or.inr (sn_18 hw))
  replace F_a1_position := F_a1_position.other W242 (Or.inr (sn_19 hw))
  replace F_a1_size := F_a1_size.same W242
  replace V_tn := V_tn.other W242 (Ne.symm ne_a1_tn)
  replace V_ts := V_ts.other W242 (Ne.symm ne_a1_ts)
  replace V_tm := V_tm.other W242 (Ne.symm ne_a1_tm)
  replace V_tp := V_tp.other W242 (Ne.symm ne_a1_tp)
  replace Z0 := Nat.le_trans Z0 (Keep.of_wr W242).1
  replace KP := KP.wr W242 (Or.inl (List.mem_of_getElem? (i := 0) rfl))
  replace NF := Fr.snoc X242 NF g_a1
  clear W242
  show WP p.tables e below _ T242 (mkF m 33 #[.val (.ref a1), .val (.int 2)] [])
  subst hG
  obtain ⟨fs, hr, hrun, hended, hW, hsame⟩ := X242.leave (v := none) (fun _ => rfl)
  refine WP.fin ⟨_, _, ?_, hrun, hended, _, _, rfl, ?_, ⟨_, rfl⟩, hW, hsame.mono (by decide) (by decide)⟩
  · exact X242.returnOut hx Bd.returns (hb hby d3_33) hr
  · show Q3t25 Z a1 tn ts tm tp kn ks km kp nd2 s0 s1 s2 m0 m1 m2 p0 p1 p2 h0 n0 _ T242.heap _
    rw [e242]
    exact ⟨rfl, NF, KP, F_a1_nodes, F_a1_seconds, F_a1_metres, F_a1_position, F_a1_size, V_tn, V_ts, V_tm, V_tp⟩
theorem ef_7t29 (m : MethodId) (z0 : Addr) (z2 : UInt64) (z3 : UInt64) : entryFrame m #[(.ref z0), (.int 2), (.double z2), (.double z3), (.int 1)] 7 = mkF m 0 #[.val (.ref z0), .val (.int 2), .val (.double z2), .second, .val (.double z3), .second, .val (.int 1)] [] := by
  all_goals first | (simp [entryFrame, mkF, argsToLocals, Value.category]; done) | rfl
def Q7t29 (Z : State) (a1 : Addr) (x1 : UInt64) (x2 : UInt64) (tn : Addr) (ts : Addr) (tm : Addr) (tp : Addr) (kn : ClassId) (ks : ClassId) (km : ClassId) (kp : ClassId) (nd0 : Value) (nd1 : Value) (nd2 : Value) (s0 : Value) (s1 : Value) (s2 : Value) (m0 : Value) (m1 : Value) (m2 : Value) (p0 : Value) (p1 : Value) (p2 : Value) (u_size : Int32) (h0 : Heap) (n0 : Nat) (v : Option Value) (h : Heap) (L : List Loc) : Prop := v = none ∧ Fr n0 L ∧ Keep h0 h [a1, tn, ts, tm, tp] ∧ Fld Z h a1 "com/example/tandemcab/tandemcab/NodeQueue" "nodes" "[I" (.ref tn) ∧ Fld Z h a1 "com/example/tandemcab/tandemcab/NodeQueue" "seconds" "[D" (.ref ts) ∧ Fld Z h a1 "com/example/tandemcab/tandemcab/NodeQueue" "metres" "[D" (.ref tm) ∧ Fld Z h a1 "com/example/tandemcab/tandemcab/NodeQueue" "position" "[I" (.ref tp) ∧ Fld Z h a1 "com/example/tandemcab/tandemcab/NodeQueue" "size" "I" (.int u_size) ∧ (Arv Z h tn kn .int (3 : Int32) [nd0, (.int 2), nd2] (.int 0)) ∧ (Arv Z h ts ks .double (3 : Int32) [s0, (.double x1), s2] (.double 0)) ∧ (Arv Z h tm km .double (3 : Int32) [m0, (.double x2), m2] (.double 0)) ∧ (Arv Z h tp kp .int (3 : Int32) [p0, p1, (.int 2)] (.int 0))
set_option maxRecDepth 65536 in
set_option maxHeartbeats 40000000 in
theorem rm7t29 (l : Launch) (Z : State) (a0 : Array Value) (hw : ∀ d ∈ tables_1, d.before a0 Z = true) (wsC : List Jvm.Cond) (a1 : Addr) (x1 : UInt64) (x2 : UInt64) (tn : Addr) (ts : Addr) (tm : Addr) (tp : Addr) (kn : ClassId) (ks : ClassId) (km : ClassId) (kp : ClassId) (nd0 : Value) (nd1 : Value) (nd2 : Value) (s0 : Value) (s1 : Value) (s2 : Value) (m0 : Value) (m1 : Value) (m2 : Value) (p0 : Value) (p1 : Value) (p2 : Value) (u_size : Int32) (h0 : Heap) (n0 : Nat) (Z0 : n0 ≤ h0.size) (E_a1 : Exa Z h0 a1 "com/example/tandemcab/tandemcab/NodeQueue") (F_a1_nodes : Fld Z h0 a1 "com/example/tandemcab/tandemcab/NodeQueue" "nodes" "[I" (.ref tn)) (F_a1_seconds : Fld Z h0 a1 "com/example/tandemcab/tandemcab/NodeQueue" "seconds" "[D" (.ref ts)) (F_a1_metres : Fld Z h0 a1 "com/example/tandemcab/tandemcab/NodeQueue" "metres" "[D" (.ref tm)) (F_a1_position : Fld Z h0 a1 "com/example/tandemcab/tandemcab/NodeQueue" "position" "[I" (.ref tp)) (F_a1_size : Fld Z h0 a1 "com/example/tandemcab/tandemcab/NodeQueue" "size" "I" (.int u_size)) (V_tn : Arv Z h0 tn kn .int (3 : Int32) [nd0, nd1, nd2] (.int 0)) (V_ts : Arv Z h0 ts ks .double (3 : Int32) [s0, s1, s2] (.double 0)) (V_tm : Arv Z h0 tm km .double (3 : Int32) [m0, m1, m2] (.double 0)) (V_tp : Arv Z h0 tp kp .int (3 : Int32) [p0, p1, p2] (.int 0)) (g_a1 : n0 ≤ a1) (g_tn : n0 ≤ tn) (g_ts : n0 ≤ ts) (g_tm : n0 ≤ tm) (g_tp : n0 ≤ tp) (ne_a1_tn : a1 ≠ tn) (ne_a1_ts : a1 ≠ ts) (ne_a1_tm : a1 ≠ tm) (ne_a1_tp : a1 ≠ tp) (ne_tn_ts : tn ≠ ts) (ne_tn_tm : tn ≠ tm) (ne_tn_tp : tn ≠ tp) (ne_ts_tm : ts ≠ tm) (ne_ts_tp : ts ≠ tp) (ne_tm_tp : tm ≠ tp) :
    MetFree l (⟨"com/example/tandemcab/tandemcab/NodeQueue", "place", "(IDDI)V"⟩ : MethodName) (head1 (Jvm.Cond.code (⟨"com/example/tandemcab/tandemcab/NodeQueue", "place", "(IDDI)V"⟩ : MethodName) prog_49_method_10_code 7 none :: wsC) ({ frames := 0, cells := 0, slots := 0, locals := 0 } : Room)) (fun a U => a = #[(.ref a1), (.int 2), (.double x1), (.double x2), (.int 1)] ∧ Z.Warmed39 U.vm ∧ U.heap = h0) (fun _ _ _ _ _ => True) (fun _ U o U' => ∃ v L, o = .returned v ∧ Q7t29 Z a1 x1 x2 tn ts tm tp kn ks km kp nd0 nd1 nd2 s0 s1 s2 m0 m1 m2 p0 p1 p2 u_size h0 n0 v U'.heap L ∧ FrameEnd U o U' L ({ frames := 0, cells := 0, slots := 0, locals := 0 } : Room).cells ({ frames := 0, cells := 0, slots := 0, locals := 0 } : Room).slots) := by
  refine MetFree.of_bodySF (plainFor_of_name pn_0) hisR ?_
  intro p e s m args below meth c s₁ Bd hml0 hP hK
  obtain ⟨rfl, hZ, hh⟩ := hP
  have hx := Bd.exec
  have hby := Bd.bytes
  have hml : c.maxLocals = 7 := hml0
  have hown : s.vm.findClass "com/example/tandemcab/tandemcab/NodeQueue" = some m.cls := findClass_of_methodNamed Bd.named
  have hnm := (name_of_methodNamed Bd.named Bd.method).1
  have X0 : Stand p l e ({ frames := 0, cells := 0, slots := 0, locals := 0 } : Room) s m #[(.ref a1), (.int 2), (.double x1), (.double x2), (.int 1)] below meth c s₁ [] 0 0 := Stand.of_body Bd
  have e0 : s₁.heap = h0 := by rw [← hh, Bd.state]; rfl
  have NF := Fr.nil n0
  have KP : Keep h0 h0 [a1, tn, ts, tm, tp] := Keep.refl h0 _
  refine WP.go ?_
  refine WP.cast (ef_7t29 m a1 x1 x2) ?_
  refine WP.name ?_
  intro G hG
  refine WP.st (T' := s₁) (f' := (mkF m 1 #[.val (.ref a1), .val (.int 2), .val (.double x1), .second, .val (.double x2), .second, .val (.int 1)] [(.ref a1)])) (fun t k => ?_) ?_
  · refine XS.aloadN X0.here hx rfl (hb hby d7_0) rfl rfl ?_
    exact k
  obtain ⟨T244, X244, e244, st244⟩ := getF X0 hx hZ hown (host := "") (Or.inl (w_10 hw)) Via.refl e0 F_a1_nodes (g := (mkF m 1 #[.val (.ref a1), .val (.int 2), .val (.double x1), .second, .val (.double x2), .second, .val (.int 1)] [(.ref a1)])) rfl rfl (hb hby d7_1)
  refine WP.st st244 ?_
  clear st244
  show WP p.tables e below _ T244 (mkF m 4 #[.val (.ref a1), .val (.int 2), .val (.double x1), .second, .val (.double x2), .second, .val (.int 1)] [(.ref tn)])
  refine WP.st (T' := T244) (f' := (mkF m 7 #[.val (.ref a1), .val (.int 2), .val (.double x1), .second, .val (.double x2), .second, .val (.int 1)] [(.int 2), (.int 1), (.ref tn)])) (fun t k => ?_) ?_
  · refine XS.iload X244.here hx rfl (hb hby d7_4) rfl ?_
    refine XS.iloadN X244.here hx rfl (hb hby d7_6) rfl ?_
    exact k
  obtain ⟨cl245, Ar245, q245, S245, N245, H245, G245⟩ := V_tn
  have hin245 : ¬ ((1 : Int32) < 0 ∨ cl245.slots.size ≤ ((1 : Int32)).toNatClampNeg) := inb_of S245 ⟨by decide, by decide⟩
  obtain ⟨T246, h246, X246, e246, W246, st246⟩ := stI X244 hx hZ e244 Ar245 (j := (1 : Int32)) hin245 (g := (mkF m 7 #[.val (.ref a1), .val (.int 2), .val (.double x1), .second, .val (.double x2), .second, .val (.int 1)] [(.int 2), (.int 1), (.ref tn)])) rfl rfl (hb hby d7_7)
  refine WP.st st246 ?_
  clear st246
  have Vn : Arv Z h246 tn kn .int (3 : Int32) [nd0, (.int 2), nd2] (.int 0) := Arv.set Ar245 q245 S245 N245 H245 G245 rfl W246 1 rfl (Nat.le_of_ble_eq_true rfl)
  replace E_a1 := E_a1.wr W246
  replace F_a1_nodes := F_a1_nodes.other W246 (Or.inl ne_a1_tn)
  replace F_a1_seconds := F_a1_seconds.other W246 (Or.inl ne_a1_tn)
  replace F_a1_metres := F_a1_metres.other W246 (Or.inl ne_a1_tn)
  replace F_a1_position := F_a1_position.other W246 (Or.inl ne_a1_tn)
  replace F_a1_size := F_a1_size.other W246 (Or.inl ne_a1_tn)
  replace V_ts := V_ts.other W246 (Ne.symm ne_tn_ts)
  replace V_tm := V_tm.other W246 (Ne.symm ne_tn_tm)
  replace V_tp := V_tp.other W246 (Ne.symm ne_tn_tp)
  replace Z0 := Nat.le_trans Z0 (Keep.of_wr W246).1
  replace KP := KP.wr W246 (Or.inl (List.mem_of_getElem? (i := 1) rfl))
  replace V_tn := Vn
  replace NF := Fr.snoc X246 NF g_tn
  clear W246 hin245 q245 S245 N245 H245 G245 Ar245
  show WP p.tables e below _ T246 (mkF m 8 #[.val (.ref a1), .val (.int 2), .val (.double x1), .second, .val (.double x2), .second, .val (.int 1)] [])
  refine WP.st (T' := T246) (f' := (mkF m 9 #[.val (.ref a1), .val (.int 2), .val (.double x1), .second, .val (.double x2), .second, .val (.int 1)] [(.ref a1)])) (fun t k => ?_) ?_
  · refine XS.aloadN X246.here hx rfl (hb hby d7_8) rfl rfl ?_
    exact k
  obtain ⟨T247, X247, e247, st247⟩ := getF X246 hx hZ hown (host := "") (Or.inl (w_13 hw)) Via.refl e246 F_a1_seconds (g := (mkF m 9 #[.val (.ref a1), .val (.int 2), .val (.double x1), .second, .val (.double x2), .second, .val (.int 1)] [(.ref a1)])) rfl rfl (hb hby d7_9)
  refine WP.st st247 ?_
  clear st247
  show WP p.tables e below _ T247 (mkF m 12 #[.val (.ref a1), .val (.int 2), .val (.double x1), .second, .val (.double x2), .second, .val (.int 1)] [(.ref ts)])
  refine WP.st (T' := T247) (f' := (mkF m 15 #[.val (.ref a1), .val (.int 2), .val (.double x1), .second, .val (.double x2), .second, .val (.int 1)] [(.double x1), (.int 1), (.ref ts)])) (fun t k => ?_) ?_
  · refine XS.iload X247.here hx rfl (hb hby d7_12) rfl ?_
    refine XS.dloadN X247.here hx rfl (hb hby d7_14) rfl ?_
    exact k
  obtain ⟨cl248, Ar248, q248, S248, N248, H248, G248⟩ := V_ts
  have hin248 : ¬ ((1 : Int32) < 0 ∨ cl248.slots.size ≤ ((1 : Int32)).toNatClampNeg) := inb_of S248 ⟨by decide, by decide⟩
  obtain ⟨T249, h249, X249, e249, W249, st249⟩ := stD X247 hx hZ e247 Ar248 (j := (1 : Int32)) hin248 (g := (mkF m 15 #[.val (.ref a1), .val (.int 2), .val (.double x1), .second, .val (.double x2), .second, .val (.int 1)] [(.double x1), (.int 1), (.ref ts)])) rfl rfl (hb hby d7_15)
  refine WP.st st249 ?_
  clear st249
  have Vn : Arv Z h249 ts ks .double (3 : Int32) [s0, (.double x1), s2] (.double 0) := Arv.set Ar248 q248 S248 N248 H248 G248 rfl W249 1 rfl (Nat.le_of_ble_eq_true rfl)
  replace E_a1 := E_a1.wr W249
  replace F_a1_nodes := F_a1_nodes.other W249 (Or.inl ne_a1_ts)
  replace F_a1_seconds := F_a1_seconds.other W249 (Or.inl ne_a1_ts)
  replace F_a1_metres := F_a1_metres.other W249 (Or.inl ne_a1_ts)
  replace F_a1_position := F_a1_position.other W249 (Or.inl ne_a1_ts)
  replace F_a1_size := F_a1_size.other W249 (Or.inl ne_a1_ts)
  replace V_tm := V_tm.other W249 (Ne.symm ne_ts_tm)
  replace V_tp := V_tp.other W249 (Ne.symm ne_ts_tp)
  replace V_tn := V_tn.other W249 ne_tn_ts
  replace Z0 := Nat.le_trans Z0 (Keep.of_wr W249).1
  replace KP := KP.wr W249 (Or.inl (List.mem_of_getElem? (i := 2) rfl))
  replace V_ts := Vn
  replace NF := Fr.snoc X249 NF g_ts
  clear W249 hin248 q248 S248 N248 H248 G248 Ar248
  show WP p.tables e below _ T249 (mkF m 16 #[.val (.ref a1), .val (.int 2), .val (.double x1), .second, .val (.double x2), .second, .val (.int 1)] [])
  refine WP.st (T' := T249) (f' := (mkF m 17 #[.val (.ref a1), .val (.int 2), .val (.double x1), .second, .val (.double x2), .second, .val (.int 1)] [(.ref a1)])) (fun t k => ?_) ?_
  · refine XS.aloadN X249.here hx rfl (hb hby d7_16) rfl rfl ?_
    exact k
  obtain ⟨T250, X250, e250, st250⟩ := getF X249 hx hZ hown (host := "") (Or.inl (w_15 hw)) Via.refl e249 F_a1_metres (g := (mkF m 17 #[.val (.ref a1), .val (.int 2), .val (.double x1), .second, .val (.double x2), .second, .val (.int 1)] [(.ref a1)])) rfl rfl (hb hby d7_17)
  refine WP.st st250 ?_
  clear st250
  show WP p.tables e below _ T250 (mkF m 20 #[.val (.ref a1), .val (.int 2), .val (.double x1), .second, .val (.double x2), .second, .val (.int 1)] [(.ref tm)])
  refine WP.st (T' := T250) (f' := (mkF m 24 #[.val (.ref a1), .val (.int 2), .val (.double x1), .second, .val (.double x2), .second, .val (.int 1)] [(.double x2), (.int 1), (.ref tm)])) (fun t k => ?_) ?_
  · refine XS.iload X250.here hx rfl (hb hby d7_20) rfl ?_
    refine XS.dload X250.here hx rfl (hb hby d7_22) rfl ?_
    exact k
  obtain ⟨cl251, Ar251, q251, S251, N251, H251, G251⟩ := V_tm
  have hin251 : ¬ ((1 : Int32) < 0 ∨ cl251.slots.size ≤ ((1 : Int32)).toNatClampNeg) := inb_of S251 ⟨by decide, by decide⟩
  obtain ⟨T252, h252, X252, e252, W252, st252⟩ := stD X250 hx hZ e250 Ar251 (j := (1 : Int32)) hin251 (g := (mkF m 24 #[.val (.ref a1), .val (.int 2), .val (.double x1), .second, .val (.double x2), .second, .val (.int 1)] [(.double x2), (.int 1), (.ref tm)])) rfl rfl (hb hby d7_24)
  refine WP.st st252 ?_
  clear st252
  have Vn : Arv Z h252 tm km .double (3 : Int32) [m0, (.double x2), m2] (.double 0) := Arv.set Ar251 q251 S251 N251 H251 G251 rfl W252 1 rfl (Nat.le_of_ble_eq_true rfl)
  replace E_a1 := E_a1.wr W252
  replace F_a1_nodes := F_a1_nodes.other W252 (Or.inl ne_a1_tm)
  replace F_a1_seconds := F_a1_seconds.other W252 (Or.inl ne_a1_tm)
  replace F_a1_metres := F_a1_metres.other W252 (Or.inl ne_a1_tm)
  replace F_a1_position := F_a1_position.other W252 (Or.inl ne_a1_tm)
  replace F_a1_size := F_a1_size.other W252 (Or.inl ne_a1_tm)
  replace V_tp := V_tp.other W252 (Ne.symm ne_tm_tp)
  replace V_tn := V_tn.other W252 ne_tn_tm
  replace V_ts := V_ts.other W252 ne_ts_tm
  replace Z0 := Nat.le_trans Z0 (Keep.of_wr W252).1
  replace KP := KP.wr W252 (Or.inl (List.mem_of_getElem? (i := 3) rfl))
  replace V_tm := Vn
  replace NF := Fr.snoc X252 NF g_tm
  clear W252 hin251 q251 S251 N251 H251 G251 Ar251
  show WP p.tables e below _ T252 (mkF m 25 #[.val (.ref a1), .val (.int 2), .val (.double x1), .second, .val (.double x2), .second, .val (.int 1)] [])
  refine WP.st (T' := T252) (f' := (mkF m 26 #[.val (.ref a1), .val (.int 2), .val (.double x1), .second, .val (.double x2), .second, .val (.int 1)] [(.ref a1)])) (fun t k => ?_) ?_
  · refine XS.aloadN X252.here hx rfl (hb hby d7_25) rfl rfl ?_
    exact k
  obtain ⟨T253, X253, e253, st253⟩ := getF X252 hx hZ hown (host := "") (Or.inl (w_17 hw)) Via.refl e252 F_a1_position (g := (mkF m 26 #[.val (.ref a1), .val (.int 2), .val (.double x1), .second, .val (.double x2), .second, .val (.int 1)] [(.ref a1)])) rfl rfl (hb hby d7_26)
  refine WP.st st253 ?_
  clear st253
  show WP p.tables e below _ T253 (mkF m 29 #[.val (.ref a1), .val (.int 2), .val (.double x1), .second, .val (.double x2), .second, .val (.int 1)] [(.ref tp)])
  refine WP.st (T' := T253) (f' := (mkF m 34 #[.val (.ref a1), .val (.int 2), .val (.double x1), .second, .val (.double x2), .second, .val (.int 1)] [(.int ((1 : Int32) + (1 : Int32))), (.int 2), (.ref tp)])) (fun t k => ?_) ?_
  · refine XS.iloadN X253.here hx rfl (hb hby d7_29) rfl ?_
    refine XS.iload X253.here hx rfl (hb hby d7_30) rfl ?_
    refine XS.iconst X253.here hx rfl (hb hby d7_32) ?_
    refine XS.iadd X253.here hx rfl (hb hby d7_33) rfl ?_
    exact k
  rw [show ((1 : Int32) + (1 : Int32)) = (2 : Int32) from by decide]
  show WP p.tables e below _ T253 (mkF m 34 #[.val (.ref a1), .val (.int 2), .val (.double x1), .second, .val (.double x2), .second, .val (.int 1)] [(.int 2), (.int 2), (.ref tp)])
  obtain ⟨cl254, Ar254, q254, S254, N254, H254, G254⟩ := V_tp
  have hin254 : ¬ ((2 : Int32) < 0 ∨ cl254.slots.size ≤ ((2 : Int32)).toNatClampNeg) := inb_of S254 ⟨by decide, by decide⟩
  obtain ⟨T255, h255, X255, e255, W255, st255⟩ := stI X253 hx hZ e253 Ar254 (j := (2 : Int32)) hin254 (g := (mkF m 34 #[.val (.ref a1), .val (.int 2), .val (.double x1), .second, .val (.double x2), .second, .val (.int 1)] [(.int 2), (.int 2), (.ref tp)])) rfl rfl (hb hby d7_34)
  refine WP.st st255 ?_
  clear st255
  have Vn : Arv Z h255 tp kp .int (3 : Int32) [p0, p1, (.int 2)] (.int 0) := Arv.set Ar254 q254 S254 N254 H254 G254 rfl W255 2 rfl (Nat.le_of_ble_eq_true rfl)
  replace E_a1 := E_a1.wr W255
  replace F_a1_nodes := F_a1_nodes.other W255 (Or.inl ne_a1_tp)
  replace F_a1_seconds := F_a1_seconds.other W255 (Or.inl ne_a1_tp)
  replace F_a1_metres := F_a1_metres.other W255 (Or.inl ne_a1_tp)
  replace F_a1_position := F_a1_position.other W255 (Or.inl ne_a1_tp)
  replace F_a1_size := F_a1_size.other W255 (Or.inl ne_a1_tp)
  replace V_tn := V_tn.other W255 ne_tn_tp
  replace V_ts := V_ts.other W255 ne_ts_tp
  replace V_tm := V_tm.other W255 ne_tm_tp
  replace Z0 := Nat.le_trans Z0 (Keep.of_wr W255).1
  replace KP := KP.wr W255 (Or.inl (List.mem_of_getElem? (i := 4) rfl))
  replace V_tp := Vn
  replace NF := Fr.snoc X255 NF g_tp
  clear W255 hin254 q254 S254 N254 H254 G254 Ar254
  show WP p.tables e below _ T255 (mkF m 35 #[.val (.ref a1), .val (.int 2), .val (.double x1), .second, .val (.double x2), .second, .val (.int 1)] [])
  subst hG
  obtain ⟨fs, hr, hrun, hended, hW, hsame⟩ := X255.leave (v := none) (fun _ => rfl)
  refine WP.fin ⟨_, _, ?_, hrun, hended, _, _, rfl, ?_, ⟨_, rfl⟩, hW, hsame.mono (by decide) (by decide)⟩
  · exact X255.returnOut hx Bd.returns (hb hby d7_35) hr
  · show Q7t29 Z a1 x1 x2 tn ts tm tp kn ks km kp nd0 nd1 nd2 s0 s1 s2 m0 m1 m2 p0 p1 p2 u_size h0 n0 _ T255.heap _
    rw [e255]
    exact ⟨rfl, NF, KP, F_a1_nodes, F_a1_seconds, F_a1_metres, F_a1_position, F_a1_size, V_tn, V_ts, V_tm, V_tp⟩
theorem ef_9t28 (m : MethodId) (z0 : Addr) : entryFrame m #[(.ref z0), (.int 0), (.int 1)] 3 = mkF m 0 #[.val (.ref z0), .val (.int 0), .val (.int 1)] [] := by
  all_goals first | (simp [entryFrame, mkF, argsToLocals, Value.category]; done) | rfl
def Q9t28 (Z : State) (a1 : Addr) (tn : Addr) (ts : Addr) (tm : Addr) (tp : Addr) (kn : ClassId) (ks : ClassId) (km : ClassId) (kp : ClassId) (nd1 : Value) (nd2 : Value) (y1 : UInt64) (s1 : Value) (s2 : Value) (y2 : UInt64) (m1 : Value) (m2 : Value) (p0 : Value) (p1 : Value) (p2 : Value) (u_size : Int32) (h0 : Heap) (n0 : Nat) (v : Option Value) (h : Heap) (L : List Loc) : Prop := v = none ∧ Fr n0 L ∧ Keep h0 h [a1, tn, ts, tm, tp] ∧ Fld Z h a1 "com/example/tandemcab/tandemcab/NodeQueue" "nodes" "[I" (.ref tn) ∧ Fld Z h a1 "com/example/tandemcab/tandemcab/NodeQueue" "seconds" "[D" (.ref ts) ∧ Fld Z h a1 "com/example/tandemcab/tandemcab/NodeQueue" "metres" "[D" (.ref tm) ∧ Fld Z h a1 "com/example/tandemcab/tandemcab/NodeQueue" "position" "[I" (.ref tp) ∧ Fld Z h a1 "com/example/tandemcab/tandemcab/NodeQueue" "size" "I" (.int u_size) ∧ (Arv Z h tn kn .int (3 : Int32) [(.int 2), (.int 2), nd2] (.int 0)) ∧ (Arv Z h ts ks .double (3 : Int32) [(.double y1), (.double y1), s2] (.double 0)) ∧ (Arv Z h tm km .double (3 : Int32) [(.double y2), (.double y2), m2] (.double 0)) ∧ (Arv Z h tp kp .int (3 : Int32) [p0, p1, (.int 2)] (.int 0))
set_option maxRecDepth 65536 in
set_option maxHeartbeats 40000000 in
theorem rm9t28 (l : Launch) (Z : State) (a0 : Array Value) (hw : ∀ d ∈ tables_1, d.before a0 Z = true) (wsC : List Jvm.Cond) (a1 : Addr) (tn : Addr) (ts : Addr) (tm : Addr) (tp : Addr) (kn : ClassId) (ks : ClassId) (km : ClassId) (kp : ClassId) (nd1 : Value) (nd2 : Value) (y1 : UInt64) (s1 : Value) (s2 : Value) (y2 : UInt64) (m1 : Value) (m2 : Value) (p0 : Value) (p1 : Value) (p2 : Value) (u_size : Int32) (h0 : Heap) (n0 : Nat) (Z0 : n0 ≤ h0.size) (E_a1 : Exa Z h0 a1 "com/example/tandemcab/tandemcab/NodeQueue") (F_a1_nodes : Fld Z h0 a1 "com/example/tandemcab/tandemcab/NodeQueue" "nodes" "[I" (.ref tn)) (F_a1_seconds : Fld Z h0 a1 "com/example/tandemcab/tandemcab/NodeQueue" "seconds" "[D" (.ref ts)) (F_a1_metres : Fld Z h0 a1 "com/example/tandemcab/tandemcab/NodeQueue" "metres" "[D" (.ref tm)) (F_a1_position : Fld Z h0 a1 "com/example/tandemcab/tandemcab/NodeQueue" "position" "[I" (.ref tp)) (F_a1_size : Fld Z h0 a1 "com/example/tandemcab/tandemcab/NodeQueue" "size" "I" (.int u_size)) (V_tn : Arv Z h0 tn kn .int (3 : Int32) [(.int 2), nd1, nd2] (.int 0)) (V_ts : Arv Z h0 ts ks .double (3 : Int32) [(.double y1), s1, s2] (.double 0)) (V_tm : Arv Z h0 tm km .double (3 : Int32) [(.double y2), m1, m2] (.double 0)) (V_tp : Arv Z h0 tp kp .int (3 : Int32) [p0, p1, p2] (.int 0)) (g_a1 : n0 ≤ a1) (g_tn : n0 ≤ tn) (g_ts : n0 ≤ ts) (g_tm : n0 ≤ tm) (g_tp : n0 ≤ tp) (ne_a1_tn : a1 ≠ tn) (ne_a1_ts : a1 ≠ ts) (ne_a1_tm : a1 ≠ tm) (ne_a1_tp : a1 ≠ tp) (ne_tn_ts : tn ≠ ts) (ne_tn_tm : tn ≠ tm) (ne_tn_tp : tn ≠ tp) (ne_ts_tm : ts ≠ tm) (ne_ts_tp : ts ≠ tp) (ne_tm_tp : tm ≠ tp) :
    MetFree l (⟨"com/example/tandemcab/tandemcab/NodeQueue", "move", "(II)V"⟩ : MethodName) (head1 (Jvm.Cond.code (⟨"com/example/tandemcab/tandemcab/NodeQueue", "move", "(II)V"⟩ : MethodName) prog_49_method_9_code 3 none :: wsC) ({ frames := 1, cells := 0, slots := 0, locals := 18 } : Room)) (fun a U => a = #[(.ref a1), (.int 0), (.int 1)] ∧ Z.Warmed39 U.vm ∧ U.heap = h0) (fun _ _ _ _ _ => True) (fun _ U o U' => ∃ v L, o = .returned v ∧ Q9t28 Z a1 tn ts tm tp kn ks km kp nd1 nd2 y1 s1 s2 y2 m1 m2 p0 p1 p2 u_size h0 n0 v U'.heap L ∧ FrameEnd U o U' L ({ frames := 1, cells := 0, slots := 0, locals := 18 } : Room).cells ({ frames := 1, cells := 0, slots := 0, locals := 18 } : Room).slots) := by
  refine MetFree.of_bodySF (plainFor_of_name pn_0) hisR ?_
  intro p e s m args below meth c s₁ Bd hml0 hP hK
  obtain ⟨rfl, hZ, hh⟩ := hP
  have hx := Bd.exec
  have hby := Bd.bytes
  have hml : c.maxLocals = 3 := hml0
  have hown : s.vm.findClass "com/example/tandemcab/tandemcab/NodeQueue" = some m.cls := findClass_of_methodNamed Bd.named
  have hnm := (name_of_methodNamed Bd.named Bd.method).1
  have X0 : Stand p l e ({ frames := 1, cells := 0, slots := 0, locals := 18 } : Room) s m #[(.ref a1), (.int 0), (.int 1)] below meth c s₁ [] 0 0 := Stand.of_body Bd
  have e0 : s₁.heap = h0 := by rw [← hh, Bd.state]; rfl
  have NF := Fr.nil n0
  have KP : Keep h0 h0 [a1, tn, ts, tm, tp] := Keep.refl h0 _
  refine WP.go ?_
  refine WP.cast (ef_9t28 m a1) ?_
  refine WP.name ?_
  intro G hG
  refine WP.st (T' := s₁) (f' := (mkF m 2 #[.val (.ref a1), .val (.int 0), .val (.int 1)] [(.ref a1), (.ref a1)])) (fun t k => ?_) ?_
  · refine XS.aloadN X0.here hx rfl (hb hby d9_0) rfl rfl ?_
    refine XS.aloadN X0.here hx rfl (hb hby d9_1) rfl rfl ?_
    exact k
  obtain ⟨T256, X256, e256, st256⟩ := getF X0 hx hZ hown (host := "") (Or.inl (w_10 hw)) Via.refl e0 F_a1_nodes (g := (mkF m 2 #[.val (.ref a1), .val (.int 0), .val (.int 1)] [(.ref a1), (.ref a1)])) rfl rfl (hb hby d9_2)
  refine WP.st st256 ?_
  clear st256
  show WP p.tables e below _ T256 (mkF m 5 #[.val (.ref a1), .val (.int 0), .val (.int 1)] [(.ref tn), (.ref a1)])
  refine WP.st (T' := T256) (f' := (mkF m 6 #[.val (.ref a1), .val (.int 0), .val (.int 1)] [(.int 0), (.ref tn), (.ref a1)])) (fun t k => ?_) ?_
  · refine XS.iloadN X256.here hx rfl (hb hby d9_5) rfl ?_
    exact k
  obtain ⟨cl257, Ar257, hin257, hat257, -⟩ := V_tn.rd (j := (0 : Int32)) ⟨by decide, by decide⟩
  replace hat257 : cl257.slots[((0 : Int32)).toNatClampNeg]? = some (.int 2) := hat257
  refine WP.st (T' := T256) (f' := (mkF m 8 #[.val (.ref a1), .val (.int 0), .val (.int 1)] [(.ref a1), (.int 2), (.ref a1)])) (fun t k => ?_) ?_
  · refine X256.iaload hx (j := (0 : Int32)) (v := (.int 2)) (by rw [e256]; exact Ar257.1) (State.isArrayOf_alike hZ.alike Ar257.2.1) Ar257.2.2 hin257 hat257 (g := (mkF m 6 #[.val (.ref a1), .val (.int 0), .val (.int 1)] [(.int 0), (.ref tn), (.ref a1)])) rfl rfl (hb hby d9_6) _ ?_
    refine XS.aloadN X256.here hx rfl (hb hby d9_7) rfl rfl ?_
    exact k
  obtain ⟨T258, X258, e258, st258⟩ := getF X256 hx hZ hown (host := "") (Or.inl (w_13 hw)) Via.refl e256 F_a1_seconds (g := (mkF m 8 #[.val (.ref a1), .val (.int 0), .val (.int 1)] [(.ref a1), (.int 2), (.ref a1)])) rfl rfl (hb hby d9_8)
  refine WP.st st258 ?_
  clear st258
  show WP p.tables e below _ T258 (mkF m 11 #[.val (.ref a1), .val (.int 0), .val (.int 1)] [(.ref ts), (.int 2), (.ref a1)])
  refine WP.st (T' := T258) (f' := (mkF m 12 #[.val (.ref a1), .val (.int 0), .val (.int 1)] [(.int 0), (.ref ts), (.int 2), (.ref a1)])) (fun t k => ?_) ?_
  · refine XS.iloadN X258.here hx rfl (hb hby d9_11) rfl ?_
    exact k
  obtain ⟨cl259, Ar259, hin259, hat259, -⟩ := V_ts.rd (j := (0 : Int32)) ⟨by decide, by decide⟩
  replace hat259 : cl259.slots[((0 : Int32)).toNatClampNeg]? = some (.double y1) := hat259
  refine WP.st (T' := T258) (f' := (mkF m 14 #[.val (.ref a1), .val (.int 0), .val (.int 1)] [(.ref a1), (.double y1), (.int 2), (.ref a1)])) (fun t k => ?_) ?_
  · refine X258.daload hx (j := (0 : Int32)) (v := (.double y1)) (by rw [e258]; exact Ar259.1) (State.isArrayOf_alike hZ.alike Ar259.2.1) Ar259.2.2 hin259 hat259 (g := (mkF m 12 #[.val (.ref a1), .val (.int 0), .val (.int 1)] [(.int 0), (.ref ts), (.int 2), (.ref a1)])) rfl rfl (hb hby d9_12) _ ?_
    refine XS.aloadN X258.here hx rfl (hb hby d9_13) rfl rfl ?_
    exact k
  obtain ⟨T260, X260, e260, st260⟩ := getF X258 hx hZ hown (host := "") (Or.inl (w_15 hw)) Via.refl e258 F_a1_metres (g := (mkF m 14 #[.val (.ref a1), .val (.int 0), .val (.int 1)] [(.ref a1), (.double y1), (.int 2), (.ref a1)])) rfl rfl (hb hby d9_14)
  refine WP.st st260 ?_
  clear st260
  show WP p.tables e below _ T260 (mkF m 17 #[.val (.ref a1), .val (.int 0), .val (.int 1)] [(.ref tm), (.double y1), (.int 2), (.ref a1)])
  refine WP.st (T' := T260) (f' := (mkF m 18 #[.val (.ref a1), .val (.int 0), .val (.int 1)] [(.int 0), (.ref tm), (.double y1), (.int 2), (.ref a1)])) (fun t k => ?_) ?_
  · refine XS.iloadN X260.here hx rfl (hb hby d9_17) rfl ?_
    exact k
  obtain ⟨cl261, Ar261, hin261, hat261, -⟩ := V_tm.rd (j := (0 : Int32)) ⟨by decide, by decide⟩
  replace hat261 : cl261.slots[((0 : Int32)).toNatClampNeg]? = some (.double y2) := hat261
  refine WP.st (T' := T260) (f' := (mkF m 20 #[.val (.ref a1), .val (.int 0), .val (.int 1)] [(.int 1), (.double y2), (.double y1), (.int 2), (.ref a1)])) (fun t k => ?_) ?_
  · refine X260.daload hx (j := (0 : Int32)) (v := (.double y2)) (by rw [e260]; exact Ar261.1) (State.isArrayOf_alike hZ.alike Ar261.2.1) Ar261.2.2 hin261 hat261 (g := (mkF m 18 #[.val (.ref a1), .val (.int 0), .val (.int 1)] [(.int 0), (.ref tm), (.double y1), (.int 2), (.ref a1)])) rfl rfl (hb hby d9_18) _ ?_
    refine XS.iloadN X260.here hx rfl (hb hby d9_19) rfl ?_
    exact k
  obtain ⟨cq262, q262, q262'⟩ := E_a1.cell
  obtain ⟨_, _, ⟨T262, L262, k262, n262⟩, -, X262, ⟨Lc262, hQ262, l262, y262, z262⟩, st262⟩ := X260.privateBack hx (y := (⟨"com/example/tandemcab/tandemcab/NodeQueue", "place", "(IDDI)V"⟩ : MethodName)) hown (mvT hZ (w_41 hw)) (mvT hZ (w_42 hw)) (ownSel (y := (⟨"com/example/tandemcab/tandemcab/NodeQueue", "place", "(IDDI)V"⟩ : MethodName)) (mvT hZ (w_22 hw)) rfl (Cond.privateMethod_at (mvP hZ (w_43 hw) (args := #[]))) (mvT hZ (w_42 hw)) (by decide)) (Cond.privateMethod_at (mvP hZ (w_43 hw) (args := #[]))) (mvT hZ (w_44 hw)) (by decide) (backOf (W := 0) (rm7t29 l Z a0 hw [] a1 y1 y2 tn ts tm tp kn ks km kp (.int 2) nd1 nd2 (.double y1) s1 s2 (.double y2) m1 m2 p0 p1 p2 u_size h0 n0 Z0 E_a1 F_a1_nodes F_a1_seconds F_a1_metres F_a1_position F_a1_size V_tn V_ts V_tm V_tp g_a1 g_tn g_ts g_tm g_tp ne_a1_tn ne_a1_ts ne_a1_tm ne_a1_tp ne_tn_ts ne_tn_tm ne_tn_tp ne_ts_tm ne_ts_tp ne_tm_tp) hZ (w_44 hw) (w_2 hw) (by decide) (by decide)) (g := (mkF m 20 #[.val (.ref a1), .val (.int 0), .val (.int 1)] [(.int 1), (.double y2), (.double y1), (.int 2), (.ref a1)])) rfl (by rw [hml]; rfl) (Steps.refl _) (a := a1) (by rw [e260]; exact q262) q262' (argsL := [(.int 2), (.double y1), (.double y2), (.int 1)]) (rest := []) (lenOf pd_2 rfl) rfl (by show 2 * 0 + _ ≤ _; exact Nat.le_of_eq rfl) (hb hby d9_20) (fun _ _ => ⟨rfl, e260, (by decide : 0 + 0 ≤ _), (by decide : 0 + 0 ≤ _)⟩)
  dsimp only [Pt.U, Pt.locs, Pt.cells, Pt.slots] at X262 l262 y262 z262 st262 hQ262
  subst l262 y262 z262
  obtain ⟨rfl, Nq262, Kq262, nF262_a1_nodes, nF262_a1_seconds, nF262_a1_metres, nF262_a1_position, nF262_a1_size, nA262_tn, nA262_ts, nA262_tm, nA262_tp⟩ := hQ262
  replace NF := Fr.app NF Nq262
  clear Nq262
  refine WP.tr st262 ?_
  clear st262
  obtain ⟨h262, e262⟩ : ∃ h, T262.heap = h := ⟨_, rfl⟩
  rw [e262] at Kq262 nF262_a1_nodes nF262_a1_seconds nF262_a1_metres nF262_a1_position nF262_a1_size nA262_tn nA262_ts nA262_tm nA262_tp
  replace E_a1 := E_a1.keep Kq262
  clear F_a1_nodes
  clear F_a1_seconds
  clear F_a1_metres
  clear F_a1_position
  clear F_a1_size
  clear V_tn
  clear V_ts
  clear V_tm
  clear V_tp
  replace Z0 := Nat.le_trans Z0 Kq262.1
  replace KP := KP.trans Kq262 (allS (Or.inl (List.mem_of_getElem? (i := 0) rfl)) (allS (Or.inl (List.mem_of_getElem? (i := 1) rfl)) (allS (Or.inl (List.mem_of_getElem? (i := 2) rfl)) (allS (Or.inl (List.mem_of_getElem? (i := 3) rfl)) (allS (Or.inl (List.mem_of_getElem? (i := 4) rfl)) all0)))))
  clear Kq262
  have F_a1_nodes := nF262_a1_nodes
  clear nF262_a1_nodes
  have F_a1_seconds := nF262_a1_seconds
  clear nF262_a1_seconds
  have F_a1_metres := nF262_a1_metres
  clear nF262_a1_metres
  have F_a1_position := nF262_a1_position
  clear nF262_a1_position
  have F_a1_size := nF262_a1_size
  clear nF262_a1_size
  have V_tn := nA262_tn
  clear nA262_tn
  have V_ts := nA262_ts
  clear nA262_ts
  have V_tm := nA262_tm
  clear nA262_tm
  have V_tp := nA262_tp
  clear nA262_tp
  show WP p.tables e below _ T262 (mkF m 23 #[.val (.ref a1), .val (.int 0), .val (.int 1)] [])
  subst hG
  obtain ⟨fs, hr, hrun, hended, hW, hsame⟩ := X262.leave (v := none) (fun _ => rfl)
  refine WP.fin ⟨_, _, ?_, hrun, hended, _, _, rfl, ?_, ⟨_, rfl⟩, hW, hsame.mono (by decide) (by decide)⟩
  · exact X262.returnOut hx Bd.returns (hb hby d9_23) hr
  · show Q9t28 Z a1 tn ts tm tp kn ks km kp nd1 nd2 y1 s1 s2 y2 m1 m2 p0 p1 p2 u_size h0 n0 _ T262.heap _
    rw [e262]
    exact ⟨rfl, NF, KP, F_a1_nodes, F_a1_seconds, F_a1_metres, F_a1_position, F_a1_size, V_tn, V_ts, V_tm, V_tp⟩
theorem ef_6t27 (m : MethodId) (z0 : Addr) (z2 : UInt64) (z3 : UInt64) : entryFrame m #[(.ref z0), (.int 1), (.double z2), (.double z3), (.int 1)] 8 = mkF m 0 #[.val (.ref z0), .val (.int 1), .val (.double z2), .second, .val (.double z3), .second, .val (.int 1), .unset] [] := by
  all_goals first | (simp [entryFrame, mkF, argsToLocals, Value.category]; done) | rfl
def Q6t27 (Z : State) (a1 : Addr) (x1 : UInt64) (x2 : UInt64) (tn : Addr) (ts : Addr) (tm : Addr) (tp : Addr) (kn : ClassId) (ks : ClassId) (km : ClassId) (kp : ClassId) (nd1 : Value) (nd2 : Value) (y1 : UInt64) (s1 : Value) (s2 : Value) (y2 : UInt64) (m1 : Value) (m2 : Value) (p0 : Value) (p1 : Value) (p2 : Value) (u_size : Int32) (h0 : Heap) (n0 : Nat) (v : Option Value) (h : Heap) (L : List Loc) : Prop := v = none ∧ Fr n0 L ∧ Keep h0 h [a1, tn, ts, tm, tp] ∧ Fld Z h a1 "com/example/tandemcab/tandemcab/NodeQueue" "nodes" "[I" (.ref tn) ∧ Fld Z h a1 "com/example/tandemcab/tandemcab/NodeQueue" "seconds" "[D" (.ref ts) ∧ Fld Z h a1 "com/example/tandemcab/tandemcab/NodeQueue" "metres" "[D" (.ref tm) ∧ Fld Z h a1 "com/example/tandemcab/tandemcab/NodeQueue" "position" "[I" (.ref tp) ∧ Fld Z h a1 "com/example/tandemcab/tandemcab/NodeQueue" "size" "I" (.int u_size) ∧ (Arv Z h tn kn .int (3 : Int32) [(.int 1), (.int 2), nd2] (.int 0)) ∧ (Arv Z h ts ks .double (3 : Int32) [(.double x1), (.double y1), s2] (.double 0)) ∧ (Arv Z h tm km .double (3 : Int32) [(.double x2), (.double y2), m2] (.double 0)) ∧ (Arv Z h tp kp .int (3 : Int32) [p0, (.int 1), (.int 2)] (.int 0))
set_option maxRecDepth 65536 in
set_option maxHeartbeats 40000000 in
theorem rm6t27 (l : Launch) (Z : State) (a0 : Array Value) (hw : ∀ d ∈ tables_1, d.before a0 Z = true) (wsC : List Jvm.Cond) (a1 : Addr) (x1 : UInt64) (x2 : UInt64) (tn : Addr) (ts : Addr) (tm : Addr) (tp : Addr) (kn : ClassId) (ks : ClassId) (km : ClassId) (kp : ClassId) (nd1 : Value) (nd2 : Value) (y1 : UInt64) (s1 : Value) (s2 : Value) (y2 : UInt64) (m1 : Value) (m2 : Value) (p0 : Value) (p1 : Value) (p2 : Value) (u_size : Int32) (h0 : Heap) (n0 : Nat) (Z0 : n0 ≤ h0.size) (E_a1 : Exa Z h0 a1 "com/example/tandemcab/tandemcab/NodeQueue") (F_a1_nodes : Fld Z h0 a1 "com/example/tandemcab/tandemcab/NodeQueue" "nodes" "[I" (.ref tn)) (F_a1_seconds : Fld Z h0 a1 "com/example/tandemcab/tandemcab/NodeQueue" "seconds" "[D" (.ref ts)) (F_a1_metres : Fld Z h0 a1 "com/example/tandemcab/tandemcab/NodeQueue" "metres" "[D" (.ref tm)) (F_a1_position : Fld Z h0 a1 "com/example/tandemcab/tandemcab/NodeQueue" "position" "[I" (.ref tp)) (F_a1_size : Fld Z h0 a1 "com/example/tandemcab/tandemcab/NodeQueue" "size" "I" (.int u_size)) (V_tn : Arv Z h0 tn kn .int (3 : Int32) [(.int 2), nd1, nd2] (.int 0)) (V_ts : Arv Z h0 ts ks .double (3 : Int32) [(.double y1), s1, s2] (.double 0)) (V_tm : Arv Z h0 tm km .double (3 : Int32) [(.double y2), m1, m2] (.double 0)) (V_tp : Arv Z h0 tp kp .int (3 : Int32) [p0, p1, p2] (.int 0)) (g_a1 : n0 ≤ a1) (g_tn : n0 ≤ tn) (g_ts : n0 ≤ ts) (g_tm : n0 ≤ tm) (g_tp : n0 ≤ tp) (ne_a1_tn : a1 ≠ tn) (ne_a1_ts : a1 ≠ ts) (ne_a1_tm : a1 ≠ tm) (ne_a1_tp : a1 ≠ tp) (ne_tn_ts : tn ≠ ts) (ne_tn_tm : tn ≠ tm) (ne_tn_tp : tn ≠ tp) (ne_ts_tm : ts ≠ tm) (ne_ts_tp : ts ≠ tp) (ne_tm_tp : tm ≠ tp) (hbef : ¬ ((own_before x1 x2 y1 y2) = (0 : Int32))) :
    MetFree l (⟨"com/example/tandemcab/tandemcab/NodeQueue", "up", "(IDDI)V"⟩ : MethodName) (head1 (Jvm.Cond.code (⟨"com/example/tandemcab/tandemcab/NodeQueue", "up", "(IDDI)V"⟩ : MethodName) prog_49_method_7_code 8 none :: wsC) ({ frames := 2, cells := 0, slots := 0, locals := 32 } : Room)) (fun a U => a = #[(.ref a1), (.int 1), (.double x1), (.double x2), (.int 1)] ∧ Z.Warmed39 U.vm ∧ U.heap = h0) (fun _ _ _ _ _ => True) (fun _ U o U' => ∃ v L, o = .returned v ∧ Q6t27 Z a1 x1 x2 tn ts tm tp kn ks km kp nd1 nd2 y1 s1 s2 y2 m1 m2 p0 p1 p2 u_size h0 n0 v U'.heap L ∧ FrameEnd U o U' L ({ frames := 2, cells := 0, slots := 0, locals := 32 } : Room).cells ({ frames := 2, cells := 0, slots := 0, locals := 32 } : Room).slots) := by
  refine MetFree.of_bodySF (plainFor_of_name pn_0) hisR ?_
  intro p e s m args below meth c s₁ Bd hml0 hP hK
  obtain ⟨rfl, hZ, hh⟩ := hP
  have hx := Bd.exec
  have hby := Bd.bytes
  have hml : c.maxLocals = 8 := hml0
  have hown : s.vm.findClass "com/example/tandemcab/tandemcab/NodeQueue" = some m.cls := findClass_of_methodNamed Bd.named
  have hnm := (name_of_methodNamed Bd.named Bd.method).1
  have X0 : Stand p l e ({ frames := 2, cells := 0, slots := 0, locals := 32 } : Room) s m #[(.ref a1), (.int 1), (.double x1), (.double x2), (.int 1)] below meth c s₁ [] 0 0 := Stand.of_body Bd
  have e0 : s₁.heap = h0 := by rw [← hh, Bd.state]; rfl
  have NF := Fr.nil n0
  have KP : Keep h0 h0 [a1, tn, ts, tm, tp] := Keep.refl h0 _
  refine WP.go ?_
  refine WP.cast (ef_6t27 m a1 x1 x2) ?_
  refine WP.name ?_
  intro G hG
  refine WP.st (T' := s₁) (f' := (mkF m 9 #[.val (.ref a1), .val (.int 1), .val (.double x1), .second, .val (.double x2), .second, .val (.int 1), .unset] [(.int ((1 : Int32) - (1 : Int32)))])) (fun t k => ?_) ?_
  · refine XS.iload X0.here hx rfl (hb hby d6_0) rfl ?_
    refine XS.ifNo X0.here hx rfl (hb hby d6_2) rfl ((if0 _ _).trans (tlt (by decide : (0 : Int32) < (1 : Int32))).2.2.2) ?_
    refine XS.iload X0.here hx rfl (hb hby d6_5) rfl ?_
    refine XS.iconst X0.here hx rfl (hb hby d6_7) ?_
    refine XS.isub X0.here hx rfl (hb hby d6_8) rfl ?_
    exact k
  rw [show ((1 : Int32) - (1 : Int32)) = (0 : Int32) from by decide]
  show WP p.tables e below _ s₁ (mkF m 9 #[.val (.ref a1), .val (.int 1), .val (.double x1), .second, .val (.double x2), .second, .val (.int 1), .unset] [(.int 0)])
  refine WP.st (T' := s₁) (f' := (mkF m 11 #[.val (.ref a1), .val (.int 1), .val (.double x1), .second, .val (.double x2), .second, .val (.int 1), .unset] [(.int (((0 : Int32).toUInt32 >>> ((1 : Int32) &&& 31).toUInt32).toInt32))])) (fun t k => ?_) ?_
  · refine XS.iconst X0.here hx rfl (hb hby d6_9) ?_
    refine XS.iushr X0.here hx rfl (hb hby d6_10) rfl ?_
    exact k
  rw [show (((0 : Int32).toUInt32 >>> ((1 : Int32) &&& 31).toUInt32).toInt32) = (0 : Int32) from by decide]
  show WP p.tables e below _ s₁ (mkF m 11 #[.val (.ref a1), .val (.int 1), .val (.double x1), .second, .val (.double x2), .second, .val (.int 1), .unset] [(.int 0)])
  refine WP.st (T' := s₁) (f' := (mkF m 17 #[.val (.ref a1), .val (.int 1), .val (.double x1), .second, .val (.double x2), .second, .val (.int 1), .val (.int 0)] [(.ref a1), (.double x2), (.double x1)])) (fun t k => ?_) ?_
  · refine XS.istore X0.here hx rfl (hb hby d6_11) rfl (l' := #[.val (.ref a1), .val (.int 1), .val (.double x1), .second, .val (.double x2), .second, .val (.int 1), .val (.int 0)]) rfl ?_
    refine XS.dloadN X0.here hx rfl (hb hby d6_13) rfl ?_
    refine XS.dload X0.here hx rfl (hb hby d6_14) rfl ?_
    refine XS.aloadN X0.here hx rfl (hb hby d6_16) rfl rfl ?_
    exact k
  obtain ⟨T263, X263, e263, st263⟩ := getF X0 hx hZ hown (host := "") (Or.inl (w_13 hw)) Via.refl e0 F_a1_seconds (g := (mkF m 17 #[.val (.ref a1), .val (.int 1), .val (.double x1), .second, .val (.double x2), .second, .val (.int 1), .val (.int 0)] [(.ref a1), (.double x2), (.double x1)])) rfl rfl (hb hby d6_17)
  refine WP.st st263 ?_
  clear st263
  show WP p.tables e below _ T263 (mkF m 20 #[.val (.ref a1), .val (.int 1), .val (.double x1), .second, .val (.double x2), .second, .val (.int 1), .val (.int 0)] [(.ref ts), (.double x2), (.double x1)])
  refine WP.st (T' := T263) (f' := (mkF m 22 #[.val (.ref a1), .val (.int 1), .val (.double x1), .second, .val (.double x2), .second, .val (.int 1), .val (.int 0)] [(.int 0), (.ref ts), (.double x2), (.double x1)])) (fun t k => ?_) ?_
  · refine XS.iload X263.here hx rfl (hb hby d6_20) rfl ?_
    exact k
  obtain ⟨cl264, Ar264, hin264, hat264, -⟩ := V_ts.rd (j := (0 : Int32)) ⟨by decide, by decide⟩
  replace hat264 : cl264.slots[((0 : Int32)).toNatClampNeg]? = some (.double y1) := hat264
  refine WP.st (T' := T263) (f' := (mkF m 24 #[.val (.ref a1), .val (.int 1), .val (.double x1), .second, .val (.double x2), .second, .val (.int 1), .val (.int 0)] [(.ref a1), (.double y1), (.double x2), (.double x1)])) (fun t k => ?_) ?_
  · refine X263.daload hx (j := (0 : Int32)) (v := (.double y1)) (by rw [e263]; exact Ar264.1) (State.isArrayOf_alike hZ.alike Ar264.2.1) Ar264.2.2 hin264 hat264 (g := (mkF m 22 #[.val (.ref a1), .val (.int 1), .val (.double x1), .second, .val (.double x2), .second, .val (.int 1), .val (.int 0)] [(.int 0), (.ref ts), (.double x2), (.double x1)])) rfl rfl (hb hby d6_22) _ ?_
    refine XS.aloadN X263.here hx rfl (hb hby d6_23) rfl rfl ?_
    exact k
  obtain ⟨T265, X265, e265, st265⟩ := getF X263 hx hZ hown (host := "") (Or.inl (w_15 hw)) Via.refl e263 F_a1_metres (g := (mkF m 24 #[.val (.ref a1), .val (.int 1), .val (.double x1), .second, .val (.double x2), .second, .val (.int 1), .val (.int 0)] [(.ref a1), (.double y1), (.double x2), (.double x1)])) rfl rfl (hb hby d6_24)
  refine WP.st st265 ?_
  clear st265
  show WP p.tables e below _ T265 (mkF m 27 #[.val (.ref a1), .val (.int 1), .val (.double x1), .second, .val (.double x2), .second, .val (.int 1), .val (.int 0)] [(.ref tm), (.double y1), (.double x2), (.double x1)])
  refine WP.st (T' := T265) (f' := (mkF m 29 #[.val (.ref a1), .val (.int 1), .val (.double x1), .second, .val (.double x2), .second, .val (.int 1), .val (.int 0)] [(.int 0), (.ref tm), (.double y1), (.double x2), (.double x1)])) (fun t k => ?_) ?_
  · refine XS.iload X265.here hx rfl (hb hby d6_27) rfl ?_
    exact k
  obtain ⟨cl266, Ar266, hin266, hat266, -⟩ := V_tm.rd (j := (0 : Int32)) ⟨by decide, by decide⟩
  replace hat266 : cl266.slots[((0 : Int32)).toNatClampNeg]? = some (.double y2) := hat266
  refine WP.st (T' := T265) (f' := (mkF m 30 #[.val (.ref a1), .val (.int 1), .val (.double x1), .second, .val (.double x2), .second, .val (.int 1), .val (.int 0)] [(.double y2), (.double y1), (.double x2), (.double x1)])) (fun t k => ?_) ?_
  · refine X265.daload hx (j := (0 : Int32)) (v := (.double y2)) (by rw [e265]; exact Ar266.1) (State.isArrayOf_alike hZ.alike Ar266.2.1) Ar266.2.2 hin266 hat266 (g := (mkF m 29 #[.val (.ref a1), .val (.int 1), .val (.double x1), .second, .val (.double x2), .second, .val (.int 1), .val (.int 0)] [(.int 0), (.ref tm), (.double y1), (.double x2), (.double x1)])) rfl rfl (hb hby d6_29) _ ?_
    exact k
  obtain ⟨_, _, ⟨T267, L267, k267, n267⟩, -, X267, ⟨Lc267, hQ267, l267, y267, z267⟩, st267⟩ := Jvm.LawKit.callS X265 hx (y := (⟨"com/example/tandemcab/tandemcab/NodeQueue", "before", "(DDDD)Z"⟩ : MethodName)) hown (mvT hZ (w_46 hw)) (mvT hZ (w_47 hw)) (mvT hZ (w_2 hw)) (mvT hZ (w_48 hw)) (by decide) (backOf (W := 0) (rm8 l Z a0 hw [] x1 x2 y1 y2 h0 n0 Z0 ) hZ (w_48 hw) (w_2 hw) (by decide) (by decide)) (g := (mkF m 30 #[.val (.ref a1), .val (.int 1), .val (.double x1), .second, .val (.double x2), .second, .val (.int 1), .val (.int 0)] [(.double y2), (.double y1), (.double x2), (.double x1)])) rfl (by rw [hml]; rfl) (argsL := [(.double x1), (.double x2), (.double y1), (.double y2)]) (rest := []) (lenOf pd_4 rfl) rfl (by show 2 * 0 + _ ≤ _; exact Nat.le_of_eq rfl) (hb hby d6_30) (fun _ _ => ⟨rfl, e265, (by decide : 0 + 0 ≤ _), (by decide : 0 + 0 ≤ _)⟩)
  dsimp only [Pt.U, Pt.locs, Pt.cells, Pt.slots] at X267 l267 y267 z267 st267 hQ267
  subst l267 y267 z267
  obtain ⟨rfl, Nq267, Kq267⟩ := hQ267
  replace NF := Fr.app NF Nq267
  clear Nq267
  refine WP.st st267 ?_
  clear st267
  replace Kq267 := Kq267.trans (rfl : h0 = h0)
  show WP p.tables e below _ T267 (mkF m 33 #[.val (.ref a1), .val (.int 1), .val (.double x1), .second, .val (.double x2), .second, .val (.int 1), .val (.int 0)] [(.int (own_before x1 x2 y1 y2))])
  refine WP.st (T' := T267) (f' := (mkF m 44 #[.val (.ref a1), .val (.int 1), .val (.double x1), .second, .val (.double x2), .second, .val (.int 1), .val (.int 0)] [(.int 1), (.int 0), (.ref a1)])) (fun t k => ?_) ?_
  · refine XS.ifYes X267.here hx rfl (pc0 := 33) (pc' := 39) rfl (hb hby d6_33) rfl ((if0 _ _).trans (feq hbef).2) (by decide) (by decide) ?_
    refine XS.aloadN X267.here hx rfl (hb hby d6_39) rfl rfl ?_
    refine XS.iload X267.here hx rfl (hb hby d6_40) rfl ?_
    refine XS.iload X267.here hx rfl (hb hby d6_42) rfl ?_
    exact k
  obtain ⟨cq268, q268, q268'⟩ := E_a1.cell
  obtain ⟨_, _, ⟨T268, L268, k268, n268⟩, -, X268, ⟨Lc268, hQ268, l268, y268, z268⟩, st268⟩ := X267.privateBack hx (y := (⟨"com/example/tandemcab/tandemcab/NodeQueue", "move", "(II)V"⟩ : MethodName)) hown (mvT hZ (w_49 hw)) (mvT hZ (w_50 hw)) (ownSel (y := (⟨"com/example/tandemcab/tandemcab/NodeQueue", "move", "(II)V"⟩ : MethodName)) (mvT hZ (w_22 hw)) rfl (Cond.privateMethod_at (mvP hZ (w_51 hw) (args := #[]))) (mvT hZ (w_50 hw)) (by decide)) (Cond.privateMethod_at (mvP hZ (w_51 hw) (args := #[]))) (mvT hZ (w_52 hw)) (by decide) (backOf (W := 0) (rm9t28 l Z a0 hw [] a1 tn ts tm tp kn ks km kp nd1 nd2 y1 s1 s2 y2 m1 m2 p0 p1 p2 u_size h0 n0 Z0 E_a1 F_a1_nodes F_a1_seconds F_a1_metres F_a1_position F_a1_size V_tn V_ts V_tm V_tp g_a1 g_tn g_ts g_tm g_tp ne_a1_tn ne_a1_ts ne_a1_tm ne_a1_tp ne_tn_ts ne_tn_tm ne_tn_tp ne_ts_tm ne_ts_tp ne_tm_tp) hZ (w_52 hw) (w_2 hw) (by decide) (by decide)) (g := (mkF m 44 #[.val (.ref a1), .val (.int 1), .val (.double x1), .second, .val (.double x2), .second, .val (.int 1), .val (.int 0)] [(.int 1), (.int 0), (.ref a1)])) rfl (by rw [hml]; rfl) (Steps.refl _) (a := a1) (by rw [Kq267]; exact q268) q268' (argsL := [(.int 0), (.int 1)]) (rest := []) (lenOf pd_5 rfl) rfl (by show 2 * 0 + _ ≤ _; exact Nat.le_of_eq rfl) (hb hby d6_44) (fun _ _ => ⟨rfl, Kq267, (by decide : 0 + 0 ≤ _), (by decide : 0 + 0 ≤ _)⟩)
  dsimp only [Pt.U, Pt.locs, Pt.cells, Pt.slots] at X268 l268 y268 z268 st268 hQ268
  subst l268 y268 z268
  obtain ⟨rfl, Nq268, Kq268, nF268_a1_nodes, nF268_a1_seconds, nF268_a1_metres, nF268_a1_position, nF268_a1_size, nA268_tn, nA268_ts, nA268_tm, nA268_tp⟩ := hQ268
  replace NF := Fr.app NF Nq268
  clear Nq268
  refine WP.tr st268 ?_
  clear st268
  obtain ⟨h268, e268⟩ : ∃ h, T268.heap = h := ⟨_, rfl⟩
  rw [e268] at Kq268 nF268_a1_nodes nF268_a1_seconds nF268_a1_metres nF268_a1_position nF268_a1_size nA268_tn nA268_ts nA268_tm nA268_tp
  replace E_a1 := E_a1.keep Kq268
  clear F_a1_nodes
  clear F_a1_seconds
  clear F_a1_metres
  clear F_a1_position
  clear F_a1_size
  clear V_tn
  clear V_ts
  clear V_tm
  clear V_tp
  replace Z0 := Nat.le_trans Z0 Kq268.1
  replace KP := KP.trans Kq268 (allS (Or.inl (List.mem_of_getElem? (i := 0) rfl)) (allS (Or.inl (List.mem_of_getElem? (i := 1) rfl)) (allS (Or.inl (List.mem_of_getElem? (i := 2) rfl)) (allS (Or.inl (List.mem_of_getElem? (i := 3) rfl)) (allS (Or.inl (List.mem_of_getElem? (i := 4) rfl)) all0)))))
  clear Kq268
  have F_a1_nodes := nF268_a1_nodes
  clear nF268_a1_nodes
  have F_a1_seconds := nF268_a1_seconds
  clear nF268_a1_seconds
  have F_a1_metres := nF268_a1_metres
  clear nF268_a1_metres
  have F_a1_position := nF268_a1_position
  clear nF268_a1_position
  have F_a1_size := nF268_a1_size
  clear nF268_a1_size
  have V_tn := nA268_tn
  clear nA268_tn
  have V_ts := nA268_ts
  clear nA268_ts
  have V_tm := nA268_tm
  clear nA268_tm
  have V_tp := nA268_tp
  clear nA268_tp
  show WP p.tables e below _ T268 (mkF m 47 #[.val (.ref a1), .val (.int 1), .val (.double x1), .second, .val (.double x2), .second, .val (.int 1), .val (.int 0)] [])
  refine WP.st (T' := T268) (f' := (mkF m 61 #[.val (.ref a1), .val (.int 1), .val (.double x1), .second, .val (.double x2), .second, .val (.int 0), .val (.int 0)] [(.int 0), (.double x2), (.double x1), (.int 1), (.ref a1)])) (fun t k => ?_) ?_
  · refine XS.iload X268.here hx rfl (hb hby d6_47) rfl ?_
    refine XS.istore X268.here hx rfl (hb hby d6_49) rfl (l' := #[.val (.ref a1), .val (.int 1), .val (.double x1), .second, .val (.double x2), .second, .val (.int 0), .val (.int 0)]) rfl ?_
    refine XS.goto X268.here hx rfl (pc0 := 51) (pc' := 0) rfl (hb hby d6_51) (by decide) (by decide) ?_
    refine XS.iload X268.here hx rfl (hb hby d6_0) rfl ?_
    refine XS.ifYes X268.here hx rfl (pc0 := 2) (pc' := 54) rfl (hb hby d6_2) rfl ((if0 _ _).trans (flt (by decide : ¬ ((0 : Int32) < (0 : Int32)))).2.2.2) (by decide) (by decide) ?_
    refine XS.aloadN X268.here hx rfl (hb hby d6_54) rfl rfl ?_
    refine XS.iloadN X268.here hx rfl (hb hby d6_55) rfl ?_
    refine XS.dloadN X268.here hx rfl (hb hby d6_56) rfl ?_
    show Steps p.tables e below (T268.setTop (mkF m 57 #[.val (.ref a1), .val (.int 1), .val (.double x1), .second, .val (.double x2), .second, .val (.int 0), .val (.int 0)] [(.double x1), (.int 1), (.ref a1)])) t
    refine XS.dload X268.here hx rfl (hb hby d6_57) rfl ?_
    refine XS.iload X268.here hx rfl (hb hby d6_59) rfl ?_
    exact k
  obtain ⟨cq269, q269, q269'⟩ := E_a1.cell
  obtain ⟨_, _, ⟨T269, L269, k269, n269⟩, -, X269, ⟨Lc269, hQ269, l269, y269, z269⟩, st269⟩ := X268.privateBack hx (y := (⟨"com/example/tandemcab/tandemcab/NodeQueue", "place", "(IDDI)V"⟩ : MethodName)) hown (mvT hZ (w_41 hw)) (mvT hZ (w_42 hw)) (ownSel (y := (⟨"com/example/tandemcab/tandemcab/NodeQueue", "place", "(IDDI)V"⟩ : MethodName)) (mvT hZ (w_22 hw)) rfl (Cond.privateMethod_at (mvP hZ (w_43 hw) (args := #[]))) (mvT hZ (w_42 hw)) (by decide)) (Cond.privateMethod_at (mvP hZ (w_43 hw) (args := #[]))) (mvT hZ (w_44 hw)) (by decide) (backOf (W := 0) (rm7t7 l Z a0 hw [] a1 x1 x2 tn ts tm tp kn ks km kp (.int 2) (.int 2) nd2 (.double y1) (.double y1) s2 (.double y2) (.double y2) m2 p0 p1 (.int 2) u_size h268 n0 Z0 E_a1 F_a1_nodes F_a1_seconds F_a1_metres F_a1_position F_a1_size V_tn V_ts V_tm V_tp g_a1 g_tn g_ts g_tm g_tp ne_a1_tn ne_a1_ts ne_a1_tm ne_a1_tp ne_tn_ts ne_tn_tm ne_tn_tp ne_ts_tm ne_ts_tp ne_tm_tp) hZ (w_44 hw) (w_2 hw) (by decide) (by decide)) (g := (mkF m 61 #[.val (.ref a1), .val (.int 1), .val (.double x1), .second, .val (.double x2), .second, .val (.int 0), .val (.int 0)] [(.int 0), (.double x2), (.double x1), (.int 1), (.ref a1)])) rfl (by rw [hml]; rfl) (Steps.refl _) (a := a1) (by rw [e268]; exact q269) q269' (argsL := [(.int 1), (.double x1), (.double x2), (.int 0)]) (rest := []) (lenOf pd_2 rfl) rfl (by show 2 * 0 + _ ≤ _; exact Nat.le_of_eq rfl) (hb hby d6_61) (fun _ _ => ⟨rfl, e268, (by decide : 0 + 0 ≤ _), (by decide : 0 + 0 ≤ _)⟩)
  dsimp only [Pt.U, Pt.locs, Pt.cells, Pt.slots] at X269 l269 y269 z269 st269 hQ269
  subst l269 y269 z269
  obtain ⟨rfl, Nq269, Kq269, nF269_a1_nodes, nF269_a1_seconds, nF269_a1_metres, nF269_a1_position, nF269_a1_size, nA269_tn, nA269_ts, nA269_tm, nA269_tp⟩ := hQ269
  replace NF := Fr.app NF Nq269
  clear Nq269
  refine WP.tr st269 ?_
  clear st269
  obtain ⟨h269, e269⟩ : ∃ h, T269.heap = h := ⟨_, rfl⟩
  rw [e269] at Kq269 nF269_a1_nodes nF269_a1_seconds nF269_a1_metres nF269_a1_position nF269_a1_size nA269_tn nA269_ts nA269_tm nA269_tp
  replace E_a1 := E_a1.keep Kq269
  clear F_a1_nodes
  clear F_a1_seconds
  clear F_a1_metres
  clear F_a1_position
  clear F_a1_size
  clear V_tn
  clear V_ts
  clear V_tm
  clear V_tp
  replace Z0 := Nat.le_trans Z0 Kq269.1
  replace KP := KP.trans Kq269 (allS (Or.inl (List.mem_of_getElem? (i := 0) rfl)) (allS (Or.inl (List.mem_of_getElem? (i := 1) rfl)) (allS (Or.inl (List.mem_of_getElem? (i := 2) rfl)) (allS (Or.inl (List.mem_of_getElem? (i := 3) rfl)) (allS (Or.inl (List.mem_of_getElem? (i := 4) rfl)) all0)))))
  clear Kq269
  have F_a1_nodes := nF269_a1_nodes
  clear nF269_a1_nodes
  have F_a1_seconds := nF269_a1_seconds
  clear nF269_a1_seconds
  have F_a1_metres := nF269_a1_metres
  clear nF269_a1_metres
  have F_a1_position := nF269_a1_position
  clear nF269_a1_position
  have F_a1_size := nF269_a1_size
  clear nF269_a1_size
  have V_tn := nA269_tn
  clear nA269_tn
  have V_ts := nA269_ts
  clear nA269_ts
  have V_tm := nA269_tm
  clear nA269_tm
  have V_tp := nA269_tp
  clear nA269_tp
  show WP p.tables e below _ T269 (mkF m 64 #[.val (.ref a1), .val (.int 1), .val (.double x1), .second, .val (.double x2), .second, .val (.int 0), .val (.int 0)] [])
  subst hG
  obtain ⟨fs, hr, hrun, hended, hW, hsame⟩ := X269.leave (v := none) (fun _ => rfl)
  refine WP.fin ⟨_, _, ?_, hrun, hended, _, _, rfl, ?_, ⟨_, rfl⟩, hW, hsame.mono (by decide) (by decide)⟩
  · exact X269.returnOut hx Bd.returns (hb hby d6_64) hr
  · show Q6t27 Z a1 x1 x2 tn ts tm tp kn ks km kp nd1 nd2 y1 s1 s2 y2 m1 m2 p0 p1 p2 u_size h0 n0 _ T269.heap _
    rw [e269]
    exact ⟨rfl, NF, KP, F_a1_nodes, F_a1_seconds, F_a1_metres, F_a1_position, F_a1_size, V_tn, V_ts, V_tm, V_tp⟩
theorem ef_5t26 (m : MethodId) (z0 : Addr) (z2 : UInt64) (z3 : UInt64) : entryFrame m #[(.ref z0), (.int 1), (.double z2), (.double z3)] 7 = mkF m 0 #[.val (.ref z0), .val (.int 1), .val (.double z2), .second, .val (.double z3), .second, .unset] [] := by
  all_goals first | (simp [entryFrame, mkF, argsToLocals, Value.category]; done) | rfl
def Q5t26 (Z : State) (a1 : Addr) (x1 : UInt64) (x2 : UInt64) (tn : Addr) (ts : Addr) (tm : Addr) (tp : Addr) (kn : ClassId) (ks : ClassId) (km : ClassId) (kp : ClassId) (nd1 : Value) (nd2 : Value) (y1 : UInt64) (s1 : Value) (s2 : Value) (y2 : UInt64) (m1 : Value) (m2 : Value) (p0 : Value) (p2 : Value) (h0 : Heap) (n0 : Nat) (v : Option Value) (h : Heap) (L : List Loc) : Prop := v = none ∧ Fr n0 L ∧ Keep h0 h [a1, tn, ts, tm, tp] ∧ Fld Z h a1 "com/example/tandemcab/tandemcab/NodeQueue" "nodes" "[I" (.ref tn) ∧ Fld Z h a1 "com/example/tandemcab/tandemcab/NodeQueue" "seconds" "[D" (.ref ts) ∧ Fld Z h a1 "com/example/tandemcab/tandemcab/NodeQueue" "metres" "[D" (.ref tm) ∧ Fld Z h a1 "com/example/tandemcab/tandemcab/NodeQueue" "position" "[I" (.ref tp) ∧ Fld Z h a1 "com/example/tandemcab/tandemcab/NodeQueue" "size" "I" (.int 2) ∧ (Arv Z h tn kn .int (3 : Int32) [(.int 1), (.int 2), nd2] (.int 0)) ∧ (Arv Z h ts ks .double (3 : Int32) [(.double x1), (.double y1), s2] (.double 0)) ∧ (Arv Z h tm km .double (3 : Int32) [(.double x2), (.double y2), m2] (.double 0)) ∧ (Arv Z h tp kp .int (3 : Int32) [p0, (.int 1), (.int 2)] (.int 0))
set_option maxRecDepth 65536 in
set_option maxHeartbeats 40000000 in
theorem rm5t26 (l : Launch) (Z : State) (a0 : Array Value) (hw : ∀ d ∈ tables_1, d.before a0 Z = true) (wsC : List Jvm.Cond) (a1 : Addr) (x1 : UInt64) (x2 : UInt64) (tn : Addr) (ts : Addr) (tm : Addr) (tp : Addr) (kn : ClassId) (ks : ClassId) (km : ClassId) (kp : ClassId) (nd1 : Value) (nd2 : Value) (y1 : UInt64) (s1 : Value) (s2 : Value) (y2 : UInt64) (m1 : Value) (m2 : Value) (p0 : Value) (p2 : Value) (h0 : Heap) (n0 : Nat) (Z0 : n0 ≤ h0.size) (E_a1 : Exa Z h0 a1 "com/example/tandemcab/tandemcab/NodeQueue") (F_a1_nodes : Fld Z h0 a1 "com/example/tandemcab/tandemcab/NodeQueue" "nodes" "[I" (.ref tn)) (F_a1_seconds : Fld Z h0 a1 "com/example/tandemcab/tandemcab/NodeQueue" "seconds" "[D" (.ref ts)) (F_a1_metres : Fld Z h0 a1 "com/example/tandemcab/tandemcab/NodeQueue" "metres" "[D" (.ref tm)) (F_a1_position : Fld Z h0 a1 "com/example/tandemcab/tandemcab/NodeQueue" "position" "[I" (.ref tp)) (F_a1_size : Fld Z h0 a1 "com/example/tandemcab/tandemcab/NodeQueue" "size" "I" (.int 1)) (V_tn : Arv Z h0 tn kn .int (3 : Int32) [(.int 2), nd1, nd2] (.int 0)) (V_ts : Arv Z h0 ts ks .double (3 : Int32) [(.double y1), s1, s2] (.double 0)) (V_tm : Arv Z h0 tm km .double (3 : Int32) [(.double y2), m1, m2] (.double 0)) (V_tp : Arv Z h0 tp kp .int (3 : Int32) [p0, (.int 0), p2] (.int 0)) (g_a1 : n0 ≤ a1) (g_tn : n0 ≤ tn) (g_ts : n0 ≤ ts) (g_tm : n0 ≤ tm) (g_tp : n0 ≤ tp) (ne_a1_tn : a1 ≠ tn) (ne_a1_ts : a1 ≠ ts) (ne_a1_tm : a1 ≠ tm) (ne_a1_tp : a1 ≠ tp) (ne_tn_ts : tn ≠ ts) (ne_tn_tm : tn ≠ tm) (ne_tn_tp : tn ≠ tp) (ne_ts_tm : ts ≠ tm) (ne_ts_tp : ts ≠ tp) (ne_tm_tp : tm ≠ tp) (hbef : ¬ ((own_before x1 x2 y1 y2) = (0 : Int32))) :
    MetFree l (⟨"com/example/tandemcab/tandemcab/NodeQueue", "offer", "(IDD)V"⟩ : MethodName) (head1 (Jvm.Cond.code (⟨"com/example/tandemcab/tandemcab/NodeQueue", "offer", "(IDD)V"⟩ : MethodName) prog_49_method_5_code 7 none :: wsC) ({ frames := 3, cells := 0, slots := 0, locals := 51 } : Room)) (fun a U => a = #[(.ref a1), (.int 1), (.double x1), (.double x2)] ∧ Z.Warmed39 U.vm ∧ U.heap = h0) (fun _ _ _ _ _ => True) (fun _ U o U' => ∃ v L, o = .returned v ∧ Q5t26 Z a1 x1 x2 tn ts tm tp kn ks km kp nd1 nd2 y1 s1 s2 y2 m1 m2 p0 p2 h0 n0 v U'.heap L ∧ FrameEnd U o U' L ({ frames := 3, cells := 0, slots := 0, locals := 51 } : Room).cells ({ frames := 3, cells := 0, slots := 0, locals := 51 } : Room).slots) := by
  refine MetFree.of_bodySF (plainFor_of_name pn_0) hisR ?_
  intro p e s m args below meth c s₁ Bd hml0 hP hK
  obtain ⟨rfl, hZ, hh⟩ := hP
  have hx := Bd.exec
  have hby := Bd.bytes
  have hml : c.maxLocals = 7 := hml0
  have hown : s.vm.findClass "com/example/tandemcab/tandemcab/NodeQueue" = some m.cls := findClass_of_methodNamed Bd.named
  have hnm := (name_of_methodNamed Bd.named Bd.method).1
  have X0 : Stand p l e ({ frames := 3, cells := 0, slots := 0, locals := 51 } : Room) s m #[(.ref a1), (.int 1), (.double x1), (.double x2)] below meth c s₁ [] 0 0 := Stand.of_body Bd
  have e0 : s₁.heap = h0 := by rw [← hh, Bd.state]; rfl
  have NF := Fr.nil n0
  have KP : Keep h0 h0 [a1, tn, ts, tm, tp] := Keep.refl h0 _
  refine WP.go ?_
  refine WP.cast (ef_5t26 m a1 x1 x2) ?_
  refine WP.name ?_
  intro G hG
  refine WP.st (T' := s₁) (f' := (mkF m 1 #[.val (.ref a1), .val (.int 1), .val (.double x1), .second, .val (.double x2), .second, .unset] [(.ref a1)])) (fun t k => ?_) ?_
  · refine XS.aloadN X0.here hx rfl (hb hby d5_0) rfl rfl ?_
    exact k
  obtain ⟨T270, X270, e270, st270⟩ := getF X0 hx hZ hown (host := "") (Or.inl (w_17 hw)) Via.refl e0 F_a1_position (g := (mkF m 1 #[.val (.ref a1), .val (.int 1), .val (.double x1), .second, .val (.double x2), .second, .unset] [(.ref a1)])) rfl rfl (hb hby d5_1)
  refine WP.st st270 ?_
  clear st270
  show WP p.tables e below _ T270 (mkF m 4 #[.val (.ref a1), .val (.int 1), .val (.double x1), .second, .val (.double x2), .second, .unset] [(.ref tp)])
  refine WP.st (T' := T270) (f' := (mkF m 5 #[.val (.ref a1), .val (.int 1), .val (.double x1), .second, .val (.double x2), .second, .unset] [(.int 1), (.ref tp)])) (fun t k => ?_) ?_
  · refine XS.iloadN X270.here hx rfl (hb hby d5_4) rfl ?_
    exact k
  obtain ⟨cl271, Ar271, hin271, hat271, -⟩ := V_tp.rd (j := (1 : Int32)) ⟨by decide, by decide⟩
  replace hat271 : cl271.slots[((1 : Int32)).toNatClampNeg]? = some (.int 0) := hat271
  refine WP.st (T' := T270) (f' := (mkF m 8 #[.val (.ref a1), .val (.int 1), .val (.double x1), .second, .val (.double x2), .second, .unset] [(.int ((0 : Int32) - (1 : Int32)))])) (fun t k => ?_) ?_
  · refine X270.iaload hx (j := (1 : Int32)) (v := (.int 0)) (by rw [e270]; exact Ar271.1) (State.isArrayOf_alike hZ.alike Ar271.2.1) Ar271.2.2 hin271 hat271 (g := (mkF m 5 #[.val (.ref a1), .val (.int 1), .val (.double x1), .second, .val (.double x2), .second, .unset] [(.int 1), (.ref tp)])) rfl rfl (hb hby d5_5) _ ?_
    refine XS.iconst X270.here hx rfl (hb hby d5_6) ?_
    refine XS.isub X270.here hx rfl (hb hby d5_7) rfl ?_
    exact k
  rw [show ((0 : Int32) - (1 : Int32)) = (-1 : Int32) from by decide]
  show WP p.tables e below _ T270 (mkF m 8 #[.val (.ref a1), .val (.int 1), .val (.double x1), .second, .val (.double x2), .second, .unset] [(.int (-1))])
  refine WP.st (T' := T270) (f' := (mkF m 22 #[.val (.ref a1), .val (.int 1), .val (.double x1), .second, .val (.double x2), .second, .val (.int (-1))] [(.ref a1), (.ref a1), (.double x2), (.double x1), (.int 1), (.ref a1)])) (fun t k => ?_) ?_
  · refine XS.istore X270.here hx rfl (hb hby d5_8) rfl (l' := #[.val (.ref a1), .val (.int 1), .val (.double x1), .second, .val (.double x2), .second, .val (.int (-1))]) rfl ?_
    refine XS.iload X270.here hx rfl (hb hby d5_10) rfl ?_
    refine XS.ifNo X270.here hx rfl (hb hby d5_12) rfl ((if0 _ _).trans (tlt (by decide : (-1 : Int32) < (0 : Int32))).2.1) ?_
    refine XS.aloadN X270.here hx rfl (hb hby d5_15) rfl rfl ?_
    refine XS.iloadN X270.here hx rfl (hb hby d5_16) rfl ?_
    refine XS.dloadN X270.here hx rfl (hb hby d5_17) rfl ?_
    refine XS.dload X270.here hx rfl (hb hby d5_18) rfl ?_
    refine XS.aloadN X270.here hx rfl (hb hby d5_20) rfl rfl ?_
    show Steps p.tables e below (T270.setTop (mkF m 21 #[.val (.ref a1), .val (.int 1), .val (.double x1), .second, .val (.double x2), .second, .val (.int (-1))] [(.ref a1), (.double x2), (.double x1), (.int 1), (.ref a1)])) t
    refine XS.dup X270.here hx rfl (hb hby d5_21) rfl rfl ?_
    exact k
  obtain ⟨T272, X272, e272, st272⟩ := getF X270 hx hZ hown (host := "") (Or.inl (w_24 hw)) Via.refl e270 F_a1_size (g := (mkF m 22 #[.val (.ref a1), .val (.int 1), .val (.double x1), .second, .val (.double x2), .second, .val (.int (-1))] [(.ref a1), (.ref a1), (.double x2), (.double x1), (.int 1), (.ref a1)])) rfl rfl (hb hby d5_22)
  refine WP.st st272 ?_
  clear st272
  show WP p.tables e below _ T272 (mkF m 25 #[.val (.ref a1), .val (.int 1), .val (.double x1), .second, .val (.double x2), .second, .val (.int (-1))] [(.int 1), (.ref a1), (.double x2), (.double x1), (.int 1), (.ref a1)])
  refine WP.st (T' := T272) (f' := (mkF m 28 #[.val (.ref a1), .val (.int 1), .val (.double x1), .second, .val (.double x2), .second, .val (.int (-1))] [(.int ((1 : Int32) + (1 : Int32))), (.ref a1), (.int 1), (.double x2), (.double x1), (.int 1), (.ref a1)])) (fun t k => ?_) ?_
  · refine XS.dupX1 X272.here hx rfl (hb hby d5_25) rfl rfl rfl ?_
    refine XS.iconst X272.here hx rfl (hb hby d5_26) ?_
    refine XS.iadd X272.here hx rfl (hb hby d5_27) rfl ?_
    exact k
  rw [show ((1 : Int32) + (1 : Int32)) = (2 : Int32) from by decide]
  show WP p.tables e below _ T272 (mkF m 28 #[.val (.ref a1), .val (.int 1), .val (.double x1), .second, .val (.double x2), .second, .val (.int (-1))] [(.int 2), (.ref a1), (.int 1), (.double x2), (.double x1), (.int 1), (.ref a1)])
  obtain ⟨T273, h273, X273, e273, W273, st273⟩ := putF X272 hx hZ hown (host := "") (Or.inl (w_24 hw)) Via.refl e272 F_a1_size E_a1 (Or.inl (w_25 hw)) (w_1 hw) (ty := .int) (by decide) rfl rfl (g := (mkF m 28 #[.val (.ref a1), .val (.int 1), .val (.double x1), .second, .val (.double x2), .second, .val (.int (-1))] [(.int 2), (.ref a1), (.int 1), (.double x2), (.double x1), (.int 1), (.ref a1)])) rfl rfl (hb hby d5_28)
  refine WP.st st273 ?_
  clear st273
  replace E_a1 := E_a1.wr W273
  replace F_a1_nodes := F_a1_nodes.other W273 (Or.inr (sn_16 hw))
  replace F_a1_seconds := F_a1_seconds.other W273 (Or.inr (sn_17 hw))
  replace F_a1_metres := F_a1_metres.other W273 (Or.inr (sn_18 hw))
  replace F_a1_position := F_a1_position.other W273 (Or.inr (sn_19 hw))
  replace F_a1_size := F_a1_size.same W273
  replace V_tn := V_tn.other W273 (Ne.symm ne_a1_tn)
  replace V_ts := V_ts.other W273 (Ne.symm ne_a1_ts)
  replace V_tm := V_tm.other W273 (Ne.symm ne_a1_tm)
  replace V_tp := V_tp.other W273 (Ne.symm ne_a1_tp)
  replace Z0 := Nat.le_trans Z0 (Keep.of_wr W273).1
  replace KP := KP.wr W273 (Or.inl (List.mem_of_getElem? (i := 0) rfl))
  replace NF := Fr.snoc X273 NF g_a1
  clear W273
  show WP p.tables e below _ T273 (mkF m 31 #[.val (.ref a1), .val (.int 1), .val (.double x1), .second, .val (.double x2), .second, .val (.int (-1))] [(.int 1), (.double x2), (.double x1), (.int 1), (.ref a1)])
  obtain ⟨cq274, q274, q274'⟩ := E_a1.cell
  obtain ⟨_, _, ⟨T274, L274, k274, n274⟩, -, X274, ⟨Lc274, hQ274, l274, y274, z274⟩, st274⟩ := X273.privateBack hx (y := (⟨"com/example/tandemcab/tandemcab/NodeQueue", "up", "(IDDI)V"⟩ : MethodName)) hown (mvT hZ (w_37 hw)) (mvT hZ (w_38 hw)) (ownSel (y := (⟨"com/example/tandemcab/tandemcab/NodeQueue", "up", "(IDDI)V"⟩ : MethodName)) (mvT hZ (w_22 hw)) rfl (Cond.privateMethod_at (mvP hZ (w_39 hw) (args := #[]))) (mvT hZ (w_38 hw)) (by decide)) (Cond.privateMethod_at (mvP hZ (w_39 hw) (args := #[]))) (mvT hZ (w_40 hw)) (by decide) (backOf (W := 0) (rm6t27 l Z a0 hw [] a1 x1 x2 tn ts tm tp kn ks km kp nd1 nd2 y1 s1 s2 y2 m1 m2 p0 (.int 0) p2 (2 : Int32) h273 n0 Z0 E_a1 F_a1_nodes F_a1_seconds F_a1_metres F_a1_position F_a1_size V_tn V_ts V_tm V_tp g_a1 g_tn g_ts g_tm g_tp ne_a1_tn ne_a1_ts ne_a1_tm ne_a1_tp ne_tn_ts ne_tn_tm ne_tn_tp ne_ts_tm ne_ts_tp ne_tm_tp hbef) hZ (w_40 hw) (w_2 hw) (by decide) (by decide)) (g := (mkF m 31 #[.val (.ref a1), .val (.int 1), .val (.double x1), .second, .val (.double x2), .second, .val (.int (-1))] [(.int 1), (.double x2), (.double x1), (.int 1), (.ref a1)])) rfl (by rw [hml]; rfl) (Steps.refl _) (a := a1) (by rw [e273]; exact q274) q274' (argsL := [(.int 1), (.double x1), (.double x2), (.int 1)]) (rest := []) (lenOf pd_2 rfl) rfl (by show 2 * 0 + _ ≤ _; exact Nat.le_of_eq rfl) (hb hby d5_31) (fun _ _ => ⟨rfl, e273, (by decide : 0 + 0 ≤ _), (by decide : 0 + 0 ≤ _)⟩)
  dsimp only [Pt.U, Pt.locs, Pt.cells, Pt.slots] at X274 l274 y274 z274 st274 hQ274
  subst l274 y274 z274
  obtain ⟨rfl, Nq274, Kq274, nF274_a1_nodes, nF274_a1_seconds, nF274_a1_metres, nF274_a1_position, nF274_a1_size, nA274_tn, nA274_ts, nA274_tm, nA274_tp⟩ := hQ274
  replace NF := Fr.app NF Nq274
  clear Nq274
  refine WP.tr st274 ?_
  clear st274
  obtain ⟨h274, e274⟩ : ∃ h, T274.heap = h := ⟨_, rfl⟩
  rw [e274] at Kq274 nF274_a1_nodes nF274_a1_seconds nF274_a1_metres nF274_a1_position nF274_a1_size nA274_tn nA274_ts nA274_tm nA274_tp
  replace E_a1 := E_a1.keep Kq274
  clear F_a1_nodes
  clear F_a1_seconds
  clear F_a1_metres
  clear F_a1_position
  clear F_a1_size
  clear V_tn
  clear V_ts
  clear V_tm
  clear V_tp
  replace Z0 := Nat.le_trans Z0 Kq274.1
  replace KP := KP.trans Kq274 (allS (Or.inl (List.mem_of_getElem? (i := 0) rfl)) (allS (Or.inl (List.mem_of_getElem? (i := 1) rfl)) (allS (Or.inl (List.mem_of_getElem? (i := 2) rfl)) (allS (Or.inl (List.mem_of_getElem? (i := 3) rfl)) (allS (Or.inl (List.mem_of_getElem? (i := 4) rfl)) all0)))))
  clear Kq274
  have F_a1_nodes := nF274_a1_nodes
  clear nF274_a1_nodes
  have F_a1_seconds := nF274_a1_seconds
  clear nF274_a1_seconds
  have F_a1_metres := nF274_a1_metres
  clear nF274_a1_metres
  have F_a1_position := nF274_a1_position
  clear nF274_a1_position
  have F_a1_size := nF274_a1_size
  clear nF274_a1_size
  have V_tn := nA274_tn
  clear nA274_tn
  have V_ts := nA274_ts
  clear nA274_ts
  have V_tm := nA274_tm
  clear nA274_tm
  have V_tp := nA274_tp
  clear nA274_tp
  show WP p.tables e below _ T274 (mkF m 34 #[.val (.ref a1), .val (.int 1), .val (.double x1), .second, .val (.double x2), .second, .val (.int (-1))] [])
  refine WP.st (T' := T274) (f' := (mkF m 83 #[.val (.ref a1), .val (.int 1), .val (.double x1), .second, .val (.double x2), .second, .val (.int (-1))] [])) (fun t k => ?_) ?_
  · refine XS.goto X274.here hx rfl (pc0 := 34) (pc' := 83) rfl (hb hby d5_34) (by decide) (by decide) ?_
    exact k
  subst hG
  obtain ⟨fs, hr, hrun, hended, hW, hsame⟩ := X274.leave (v := none) (fun _ => rfl)
  refine WP.fin ⟨_, _, ?_, hrun, hended, _, _, rfl, ?_, ⟨_, rfl⟩, hW, hsame.mono (by decide) (by decide)⟩
  · exact X274.returnOut hx Bd.returns (hb hby d5_83) hr
  · show Q5t26 Z a1 x1 x2 tn ts tm tp kn ks km kp nd1 nd2 y1 s1 s2 y2 m1 m2 p0 p2 h0 n0 _ T274.heap _
    rw [e274]
    exact ⟨rfl, NF, KP, F_a1_nodes, F_a1_seconds, F_a1_metres, F_a1_position, F_a1_size, V_tn, V_ts, V_tm, V_tp⟩
theorem ef_3t30 (m : MethodId) (z0 : Addr) : entryFrame m #[(.ref z0)] 2 = mkF m 0 #[.val (.ref z0), .unset] [] := by
  all_goals first | (simp [entryFrame, mkF, argsToLocals, Value.category]; done) | rfl
def Q3t30 (Z : State) (a1 : Addr) (tn : Addr) (ts : Addr) (tm : Addr) (tp : Addr) (kn : ClassId) (ks : ClassId) (km : ClassId) (kp : ClassId) (nd2 : Value) (s0 : Value) (s1 : Value) (s2 : Value) (m0 : Value) (m1 : Value) (m2 : Value) (p0 : Value) (p1 : Value) (p2 : Value) (h0 : Heap) (n0 : Nat) (v : Option Value) (h : Heap) (L : List Loc) : Prop := v = none ∧ Fr n0 L ∧ Keep h0 h [a1, tn, ts, tm, tp] ∧ Fld Z h a1 "com/example/tandemcab/tandemcab/NodeQueue" "nodes" "[I" (.ref tn) ∧ Fld Z h a1 "com/example/tandemcab/tandemcab/NodeQueue" "seconds" "[D" (.ref ts) ∧ Fld Z h a1 "com/example/tandemcab/tandemcab/NodeQueue" "metres" "[D" (.ref tm) ∧ Fld Z h a1 "com/example/tandemcab/tandemcab/NodeQueue" "position" "[I" (.ref tp) ∧ Fld Z h a1 "com/example/tandemcab/tandemcab/NodeQueue" "size" "I" (.int 0) ∧ (Arv Z h tn kn .int (3 : Int32) [(.int 1), (.int 2), nd2] (.int 0)) ∧ (Arv Z h ts ks .double (3 : Int32) [s0, s1, s2] (.double 0)) ∧ (Arv Z h tm km .double (3 : Int32) [m0, m1, m2] (.double 0)) ∧ (Arv Z h tp kp .int (3 : Int32) [p0, (.int 0), (.int 0)] (.int 0))
set_option maxRecDepth 65536 in
set_option maxHeartbeats 40000000 in
theorem rm3t30 (l : Launch) (Z : State) (a0 : Array Value) (hw : ∀ d ∈ tables_1, d.before a0 Z = true) (wsC : List Jvm.Cond) (a1 : Addr) (tn : Addr) (ts : Addr) (tm : Addr) (tp : Addr) (kn : ClassId) (ks : ClassId) (km : ClassId) (kp : ClassId) (nd2 : Value) (s0 : Value) (s1 : Value) (s2 : Value) (m0 : Value) (m1 : Value) (m2 : Value) (p0 : Value) (p1 : Value) (p2 : Value) (h0 : Heap) (n0 : Nat) (Z0 : n0 ≤ h0.size) (E_a1 : Exa Z h0 a1 "com/example/tandemcab/tandemcab/NodeQueue") (F_a1_nodes : Fld Z h0 a1 "com/example/tandemcab/tandemcab/NodeQueue" "nodes" "[I" (.ref tn)) (F_a1_seconds : Fld Z h0 a1 "com/example/tandemcab/tandemcab/NodeQueue" "seconds" "[D" (.ref ts)) (F_a1_metres : Fld Z h0 a1 "com/example/tandemcab/tandemcab/NodeQueue" "metres" "[D" (.ref tm)) (F_a1_position : Fld Z h0 a1 "com/example/tandemcab/tandemcab/NodeQueue" "position" "[I" (.ref tp)) (F_a1_size : Fld Z h0 a1 "com/example/tandemcab/tandemcab/NodeQueue" "size" "I" (.int 2)) (V_tn : Arv Z h0 tn kn .int (3 : Int32) [(.int 1), (.int 2), nd2] (.int 0)) (V_ts : Arv Z h0 ts ks .double (3 : Int32) [s0, s1, s2] (.double 0)) (V_tm : Arv Z h0 tm km .double (3 : Int32) [m0, m1, m2] (.double 0)) (V_tp : Arv Z h0 tp kp .int (3 : Int32) [p0, p1, p2] (.int 0)) (g_a1 : n0 ≤ a1) (g_tn : n0 ≤ tn) (g_ts : n0 ≤ ts) (g_tm : n0 ≤ tm) (g_tp : n0 ≤ tp) (ne_a1_tn : a1 ≠ tn) (ne_a1_ts : a1 ≠ ts) (ne_a1_tm : a1 ≠ tm) (ne_a1_tp : a1 ≠ tp) (ne_tn_ts : tn ≠ ts) (ne_tn_tm : tn ≠ tm) (ne_tn_tp : tn ≠ tp) (ne_ts_tm : ts ≠ tm) (ne_ts_tp : ts ≠ tp) (ne_tm_tp : tm ≠ tp) :
    MetFree l (⟨"com/example/tandemcab/tandemcab/NodeQueue", "clear", "()V"⟩ : MethodName) (head1 (Jvm.Cond.code (⟨"com/example/tandemcab/tandemcab/NodeQueue", "clear", "()V"⟩ : MethodName) prog_49_method_3_code 2 none :: wsC) ({ frames := 0, cells := 0, slots := 0, locals := 0 } : Room)) (fun a U => a = #[(.ref a1)] ∧ Z.Warmed39 U.vm ∧ U.heap = h0) (fun _ _ _ _ _ => True) (fun _ U o U' => ∃ v L, o = .returned v ∧ Q3t30 Z a1 tn ts tm tp kn ks km kp nd2 s0 s1 s2 m0 m1 m2 p0 p1 p2 h0 n0 v U'.heap L ∧ FrameEnd U o U' L ({ frames := 0, cells := 0, slots := 0, locals := 0 } : Room).cells ({ frames := 0, cells := 0, slots := 0, locals := 0 } : Room).slots) := by
  refine MetFree.of_bodySF (plainFor_of_name pn_0) hisR ?_
  intro p e s m args below meth c s₁ Bd hml0 hP hK
  obtain ⟨rfl, hZ, hh⟩ := hP
  have hx := Bd.exec
  have hby := Bd.bytes
  have hml : c.maxLocals = 2 := hml0
  have hown : s.vm.findClass "com/example/tandemcab/tandemcab/NodeQueue" = some m.cls := findClass_of_methodNamed Bd.named
  have hnm := (name_of_methodNamed Bd.named Bd.method).1
  have X0 : Stand p l e ({ frames := 0, cells := 0, slots := 0, locals := 0 } : Room) s m #[(.ref a1)] below meth c s₁ [] 0 0 := Stand.of_body Bd
  have e0 : s₁.heap = h0 := by rw [← hh, Bd.state]; rfl
  have NF := Fr.nil n0
  have KP : Keep h0 h0 [a1, tn, ts, tm, tp] := Keep.refl h0 _
  refine WP.go ?_
  refine WP.cast (ef_3t30 m a1) ?_
  refine WP.name ?_
  intro G hG
  refine WP.st (T' := s₁) (f' := (mkF m 4 #[.val (.ref a1), .val (.int 0)] [(.ref a1), (.int 0)])) (fun t k => ?_) ?_
  · refine XS.iconst X0.here hx rfl (hb hby d3_0) ?_
    refine XS.istoreN X0.here hx rfl (hb hby d3_1) rfl (l' := #[.val (.ref a1), .val (.int 0)]) rfl ?_
    refine XS.iloadN X0.here hx rfl (hb hby d3_2) rfl ?_
    refine XS.aloadN X0.here hx rfl (hb hby d3_3) rfl rfl ?_
    exact k
  obtain ⟨T276, X276, e276, st276⟩ := getF X0 hx hZ hown (host := "") (Or.inl (w_24 hw)) Via.refl e0 F_a1_size (g := (mkF m 4 #[.val (.ref a1), .val (.int 0)] [(.ref a1), (.int 0)])) rfl rfl (hb hby d3_4)
  refine WP.st st276 ?_
  clear st276
  show WP p.tables e below _ T276 (mkF m 7 #[.val (.ref a1), .val (.int 0)] [(.int 2), (.int 0)])
  refine WP.st (T' := T276) (f' := (mkF m 11 #[.val (.ref a1), .val (.int 0)] [(.ref a1)])) (fun t k => ?_) ?_
  · refine XS.icmpNo X276.here hx rfl (hb hby d3_7) rfl (tlt (by decide : (0 : Int32) < (2 : Int32))).2.1 ?_
    refine XS.aloadN X276.here hx rfl (hb hby d3_10) rfl rfl ?_
    exact k
  obtain ⟨T277, X277, e277, st277⟩ := getF X276 hx hZ hown (host := "") (Or.inl (w_17 hw)) Via.refl e276 F_a1_position (g := (mkF m 11 #[.val (.ref a1), .val (.int 0)] [(.ref a1)])) rfl rfl (hb hby d3_11)
  refine WP.st st277 ?_
  clear st277
  show WP p.tables e below _ T277 (mkF m 14 #[.val (.ref a1), .val (.int 0)] [(.ref tp)])
  refine WP.st (T' := T277) (f' := (mkF m 15 #[.val (.ref a1), .val (.int 0)] [(.ref a1), (.ref tp)])) (fun t k => ?_) ?_
  · refine XS.aloadN X277.here hx rfl (hb hby d3_14) rfl rfl ?_
    exact k
  obtain ⟨T278, X278, e278, st278⟩ := getF X277 hx hZ hown (host := "") (Or.inl (w_10 hw)) Via.refl e277 F_a1_nodes (g := (mkF m 15 #[.val (.ref a1), .val (.int 0)] [(.ref a1), (.ref tp)])) rfl rfl (hb hby d3_15)
  refine WP.st st278 ?_
  clear st278
  show WP p.tables e below _ T278 (mkF m 18 #[.val (.ref a1), .val (.int 0)] [(.ref tn), (.ref tp)])
  refine WP.st (T' := T278) (f' := (mkF m 19 #[.val (.ref a1), .val (.int 0)] [(.int 0), (.ref tn), (.ref tp)])) (fun t k => ?_) ?_
  · refine XS.iloadN X278.here hx rfl (hb hby d3_18) rfl ?_
    exact k
  obtain ⟨cl279, Ar279, hin279, hat279, -⟩ := V_tn.rd (j := (0 : Int32)) ⟨by decide, by decide⟩
  replace hat279 : cl279.slots[((0 : Int32)).toNatClampNeg]? = some (.int 1) := hat279
  refine WP.st (T' := T278) (f' := (mkF m 21 #[.val (.ref a1), .val (.int 0)] [(.int 0), (.int 1), (.ref tp)])) (fun t k => ?_) ?_
  · refine X278.iaload hx (j := (0 : Int32)) (v := (.int 1)) (by rw [e278]; exact Ar279.1) (State.isArrayOf_alike hZ.alike Ar279.2.1) Ar279.2.2 hin279 hat279 (g := (mkF m 19 #[.val (.ref a1), .val (.int 0)] [(.int 0), (.ref tn), (.ref tp)])) rfl rfl (hb hby d3_19) _ ?_
    refine XS.iconst X278.here hx rfl (hb hby d3_20) ?_
    exact k
  obtain ⟨cl280, Ar280, q280, S280, N280, H280, G280⟩ := V_tp
  have hin280 : ¬ ((1 : Int32) < 0 ∨ cl280.slots.size ≤ ((1 : Int32)).toNatClampNeg) := inb_of S280 ⟨by decide, by decide⟩
  obtain ⟨T281, h281, X281, e281, W281, st281⟩ := stI X278 hx hZ e278 Ar280 (j := (1 : Int32)) hin280 (g := (mkF m 21 #[.val (.ref a1), .val (.int 0)] [(.int 0), (.int 1), (.ref tp)])) rfl rfl (hb hby d3_21)
  refine WP.st st281 ?_
  clear st281
  have Vn : Arv Z h281 tp kp .int (3 : Int32) [p0, (.int 0), p2] (.int 0) := Arv.set Ar280 q280 S280 N280 H280 G280 rfl W281 1 rfl (Nat.le_of_ble_eq_true rfl)
  replace E_a1 := E_a1.wr W281
  replace F_a1_nodes := F_a1_nodes.other W281 (Or.inl ne_a1_tp)
  replace F_a1_seconds := F_a1_seconds.other W281 (Or.inl ne_a1_tp)
  replace F_a1_metres := F_a1_metres.other W281 (Or.inl ne_a1_tp)
  replace F_a1_position := F_a1_position.other W281 (Or.inl ne_a1_tp)
  replace F_a1_size := F_a1_size.other W281 (Or.inl ne_a1_tp)
  replace V_tn := V_tn.other W281 ne_tn_tp
  replace V_ts := V_ts.other W281 ne_ts_tp
  replace V_tm := V_tm.other W281 ne_tm_tp
  replace Z0 := Nat.le_trans Z0 (Keep.of_wr W281).1
  replace KP := KP.wr W281 (Or.inl (List.mem_of_getElem? (i := 4) rfl))
  replace V_tp := Vn
  replace NF := Fr.snoc X281 NF g_tp
  clear W281 hin280 q280 S280 N280 H280 G280 Ar280
  show WP p.tables e below _ T281 (mkF m 22 #[.val (.ref a1), .val (.int 0)] [])
  refine WP.st (T' := T281) (f' := (mkF m 25 #[.val (.ref a1), .val (.int ((0 : Int32) + (1 : Int32)))] [])) (fun t k => ?_) ?_
  · refine XS.iinc X281.here hx rfl (hb hby d3_22) rfl (l' := #[.val (.ref a1), .val (.int ((0 : Int32) + (1 : Int32)))]) rfl ?_
    exact k
  rw [show ((0 : Int32) + (1 : Int32)) = (1 : Int32) from by decide]
  show WP p.tables e below _ T281 (mkF m 25 #[.val (.ref a1), .val (.int 1)] [])
  refine WP.st (T' := T281) (f' := (mkF m 4 #[.val (.ref a1), .val (.int 1)] [(.ref a1), (.int 1)])) (fun t k => ?_) ?_
  · refine XS.goto X281.here hx rfl (pc0 := 25) (pc' := 2) rfl (hb hby d3_25) (by decide) (by decide) ?_
    refine XS.iloadN X281.here hx rfl (hb hby d3_2) rfl ?_
    refine XS.aloadN X281.here hx rfl (hb hby d3_3) rfl rfl ?_
    exact k
  obtain ⟨T282, X282, e282, st282⟩ := getF X281 hx hZ hown (host := "") (Or.inl (w_24 hw)) Via.refl e281 F_a1_size (g := (mkF m 4 #[.val (.ref a1), .val (.int 1)] [(.ref a1), (.int 1)])) rfl rfl (hb hby d3_4)
  refine WP.st st282 ?_
  clear st282
  show WP p.tables e below _ T282 (mkF m 7 #[.val (.ref a1), .val (.int 1)] [(.int 2), (.int 1)])
  refine WP.st (T' := T282) (f' := (mkF m 11 #[.val (.ref a1), .val (.int 1)] [(.ref a1)])) (fun t k => ?_) ?_
  · refine XS.icmpNo X282.here hx rfl (hb hby d3_7) rfl (tlt (by decide : (1 : Int32) < (2 : Int32))).2.1 ?_
    refine XS.aloadN X282.here hx rfl (hb hby d3_10) rfl rfl ?_
    exact k
  obtain ⟨T283, X283, e283, st283⟩ := getF X282 hx hZ hown (host := "") (Or.inl (w_17 hw)) Via.refl e282 F_a1_position (g := (mkF m 11 #[.val (.ref a1), .val (.int 1)] [(.ref a1)])) rfl rfl (hb hby d3_11)
  refine WP.st st283 ?_
  clear st283
  show WP p.tables e below _ T283 (mkF m 14 #[.val (.ref a1), .val (.int 1)] [(.ref tp)])
  refine WP.st (T' := T283) (f' := (mkF m 15 #[.val (.ref a1), .val (.int 1)] [(.ref a1), (.ref tp)])) (fun t k => ?_) ?_
  · refine XS.aloadN X283.here hx rfl (hb hby d3_14) rfl rfl ?_
    exact k
  obtain ⟨T284, X284, e284, st284⟩ := getF X283 hx hZ hown (host := "") (Or.inl (w_10 hw)) Via.refl e283 F_a1_nodes (g := (mkF m 15 #[.val (.ref a1), .val (.int 1)] [(.ref a1), (.ref tp)])) rfl rfl (hb hby d3_15)
  refine WP.st st284 ?_
  clear st284
  show WP p.tables e below _ T284 (mkF m 18 #[.val (.ref a1), .val (.int 1)] [(.ref tn), (.ref tp)])
  refine WP.st (T' := T284) (f' := (mkF m 19 #[.val (.ref a1), .val (.int 1)] [(.int 1), (.ref tn), (.ref tp)])) (fun t k => ?_) ?_
  · refine XS.iloadN X284.here hx rfl (hb hby d3_18) rfl ?_
    exact k
  obtain ⟨cl285, Ar285, hin285, hat285, -⟩ := V_tn.rd (j := (1 : Int32)) ⟨by decide, by decide⟩
  replace hat285 : cl285.slots[((1 : Int32)).toNatClampNeg]? = some (.int 2) := hat285
  refine WP.st (T' := T284) (f' := (mkF m 21 #[.val (.ref a1), .val (.int 1)] [(.int 0), (.int 2), (.ref tp)])) (fun t k => ?_) ?_
  · refine X284.iaload hx (j := (1 : Int32)) (v := (.int 2)) (by rw [e284]; exact Ar285.1) (State.isArrayOf_alike hZ.alike Ar285.2.1) Ar285.2.2 hin285 hat285 (g := (mkF m 19 #[.val (.ref a1), .val (.int 1)] [(.int 1), (.ref tn), (.ref tp)])) rfl rfl (hb hby d3_19) _ ?_
    refine XS.iconst X284.here hx rfl (hb hby d3_20) ?_
    exact k
  obtain ⟨cl286, Ar286, q286, S286, N286, H286, G286⟩ := V_tp
  have hin286 : ¬ ((2 : Int32) < 0 ∨ cl286.slots.size ≤ ((2 : Int32)).toNatClampNeg) := inb_of S286 ⟨by decide, by decide⟩
  obtain ⟨T287, h287, X287, e287, W287, st287⟩ := stI X284 hx hZ e284 Ar286 (j := (2 : Int32)) hin286 (g := (mkF m 21 #[.val (.ref a1), .val (.int 1)] [(.int 0), (.int 2), (.ref tp)])) rfl rfl (hb hby d3_21)
  refine WP.st st287 ?_
  clear st287
  have Vn : Arv Z h287 tp kp .int (3 : Int32) [p0, (.int 0), (.int 0)] (.int 0) := Arv.set Ar286 q286 S286 N286 H286 G286 rfl W287 2 rfl (Nat.le_of_ble_eq_true rfl)
  replace E_a1 := E_a1.wr W287
  replace F_a1_nodes := F_a1_nodes.other W287 (Or.inl ne_a1_tp)
  replace F_a1_seconds := F_a1_seconds.other W287 (Or.inl ne_a1_tp)
  replace F_a1_metres := F_a1_metres.other W287 (Or.inl ne_a1_tp)
  replace F_a1_position := F_a1_position.other W287 (Or.inl ne_a1_tp)
  replace F_a1_size := F_a1_size.other W287 (Or.inl ne_a1_tp)
  replace V_tn := V_tn.other W287 ne_tn_tp
  replace V_ts := V_ts.other W287 ne_ts_tp
  replace V_tm := V_tm.other W287 ne_tm_tp
  replace Z0 := Nat.le_trans Z0 (Keep.of_wr W287).1
  replace KP := KP.wr W287 (Or.inl (List.mem_of_getElem? (i := 4) rfl))
  replace V_tp := Vn
  replace NF := Fr.snoc X287 NF g_tp
  clear W287 hin286 q286 S286 N286 H286 G286 Ar286
  show WP p.tables e below _ T287 (mkF m 22 #[.val (.ref a1), .val (.int 1)] [])
  refine WP.st (T' := T287) (f' := (mkF m 25 #[.val (.ref a1), .val (.int ((1 : Int32) + (1 : Int32)))] [])) (fun t k => ?_) ?_
  · refine XS.iinc X287.here hx rfl (hb hby d3_22) rfl (l' := #[.val (.ref a1), .val (.int ((1 : Int32) + (1 : Int32)))]) rfl ?_
    exact k
  rw [show ((1 : Int32) + (1 : Int32)) = (2 : Int32) from by decide]
  show WP p.tables e below _ T287 (mkF m 25 #[.val (.ref a1), .val (.int 2)] [])
  refine WP.st (T' := T287) (f' := (mkF m 4 #[.val (.ref a1), .val (.int 2)] [(.ref a1), (.int 2)])) (fun t k => ?_) ?_
  · refine XS.goto X287.here hx rfl (pc0 := 25) (pc' := 2) rfl (hb hby d3_25) (by decide) (by decide) ?_
    refine XS.iloadN X287.here hx rfl (hb hby d3_2) rfl ?_
    refine XS.aloadN X287.here hx rfl (hb hby d3_3) rfl rfl ?_
    exact k
  obtain ⟨T288, X288, e288, st288⟩ := getF X287 hx hZ hown (host := "") (Or.inl (w_24 hw)) Via.refl e287 F_a1_size (g := (mkF m 4 #[.val (.ref a1), .val (.int 2)] [(.ref a1), (.int 2)])) rfl rfl (hb hby d3_4)
  refine WP.st st288 ?_
  clear st288
  show WP p.tables e below _ T288 (mkF m 7 #[.val (.ref a1), .val (.int 2)] [(.int 2), (.int 2)])
  refine WP.st (T' := T288) (f' := (mkF m 30 #[.val (.ref a1), .val (.int 2)] [(.int 0), (.ref a1)])) (fun t k => ?_) ?_
  · refine XS.icmpYes X288.here hx rfl (pc0 := 7) (pc' := 28) rfl (hb hby d3_7) rfl (flt (by decide : ¬ ((2 : Int32) < (2 : Int32)))).2.1 (by decide) (by decide) ?_
    refine XS.aloadN X288.here hx rfl (hb hby d3_28) rfl rfl ?_
    refine XS.iconst X288.here hx rfl (hb hby d3_29) ?_
    exact k
  obtain ⟨T289, h289, X289, e289, W289, st289⟩ := putF X288 hx hZ hown (host := "") (Or.inl (w_24 hw)) Via.refl e288 F_a1_size E_a1 (Or.inl (w_25 hw)) (w_1 hw) (ty := .int) (by decide) rfl rfl (g := (mkF m 30 #[.val (.ref a1), .val (.int 2)] [(.int 0), (.ref a1)])) rfl rfl (hb hby d3_30)
  refine WP.st st289 ?_
  clear st289
  replace E_a1 := E_a1.wr W289
  replace F_a1_nodes := F_a1_nodes.other W289 (Or.inr (sn_16 hw))
  replace F_a1_seconds := F_a1_seconds.other W289 (Or.inr (sn_17 hw))
  replace F_a1_metres := F_a1_metres.other W289 (Or.inr (sn_18 hw))
  replace F_a1_position := F_a1_position.other W289 (Or.inr (sn_19 hw))
  replace F_a1_size := F_a1_size.same W289
  replace V_tn := V_tn.other W289 (Ne.symm ne_a1_tn)
  replace V_ts := V_ts.other W289 (Ne.symm ne_a1_ts)
  replace V_tm := V_tm.other W289 (Ne.symm ne_a1_tm)
  replace V_tp := V_tp.other W289 (Ne.symm ne_a1_tp)
  replace Z0 := Nat.le_trans Z0 (Keep.of_wr W289).1
  replace KP := KP.wr W289 (Or.inl (List.mem_of_getElem? (i := 0) rfl))
  replace NF := Fr.snoc X289 NF g_a1
  clear W289
  show WP p.tables e below _ T289 (mkF m 33 #[.val (.ref a1), .val (.int 2)] [])
  subst hG
  obtain ⟨fs, hr, hrun, hended, hW, hsame⟩ := X289.leave (v := none) (fun _ => rfl)
  refine WP.fin ⟨_, _, ?_, hrun, hended, _, _, rfl, ?_, ⟨_, rfl⟩, hW, hsame.mono (by decide) (by decide)⟩
  · exact X289.returnOut hx Bd.returns (hb hby d3_33) hr
  · show Q3t30 Z a1 tn ts tm tp kn ks km kp nd2 s0 s1 s2 m0 m1 m2 p0 p1 p2 h0 n0 _ T289.heap _
    rw [e289]
    exact ⟨rfl, NF, KP, F_a1_nodes, F_a1_seconds, F_a1_metres, F_a1_position, F_a1_size, V_tn, V_ts, V_tm, V_tp⟩
theorem ef_7t33 (m : MethodId) (z0 : Addr) (z2 : UInt64) (z3 : UInt64) : entryFrame m #[(.ref z0), (.int 0), (.double z2), (.double z3), (.int 2)] 7 = mkF m 0 #[.val (.ref z0), .val (.int 0), .val (.double z2), .second, .val (.double z3), .second, .val (.int 2)] [] := by
  all_goals first | (simp [entryFrame, mkF, argsToLocals, Value.category]; done) | rfl
def Q7t33 (Z : State) (a1 : Addr) (x1 : UInt64) (x2 : UInt64) (tn : Addr) (ts : Addr) (tm : Addr) (tp : Addr) (kn : ClassId) (ks : ClassId) (km : ClassId) (kp : ClassId) (nd0 : Value) (nd1 : Value) (nd2 : Value) (s0 : Value) (s1 : Value) (s2 : Value) (m0 : Value) (m1 : Value) (m2 : Value) (p0 : Value) (p1 : Value) (p2 : Value) (u_size : Int32) (h0 : Heap) (n0 : Nat) (v : Option Value) (h : Heap) (L : List Loc) : Prop := v = none ∧ Fr n0 L ∧ Keep h0 h [a1, tn, ts, tm, tp] ∧ Fld Z h a1 "com/example/tandemcab/tandemcab/NodeQueue" "nodes" "[I" (.ref tn) ∧ Fld Z h a1 "com/example/tandemcab/tandemcab/NodeQueue" "seconds" "[D" (.ref ts) ∧ Fld Z h a1 "com/example/tandemcab/tandemcab/NodeQueue" "metres" "[D" (.ref tm) ∧ Fld Z h a1 "com/example/tandemcab/tandemcab/NodeQueue" "position" "[I" (.ref tp) ∧ Fld Z h a1 "com/example/tandemcab/tandemcab/NodeQueue" "size" "I" (.int u_size) ∧ (Arv Z h tn kn .int (3 : Int32) [nd0, nd1, (.int 0)] (.int 0)) ∧ (Arv Z h ts ks .double (3 : Int32) [s0, s1, (.double x1)] (.double 0)) ∧ (Arv Z h tm km .double (3 : Int32) [m0, m1, (.double x2)] (.double 0)) ∧ (Arv Z h tp kp .int (3 : Int32) [(.int 3), p1, p2] (.int 0))
set_option maxRecDepth 65536 in
set_option maxHeartbeats 40000000 in
theorem rm7t33 (l : Launch) (Z : State) (a0 : Array Value) (hw : ∀ d ∈ tables_1, d.before a0 Z = true) (wsC : List Jvm.Cond) (a1 : Addr) (x1 : UInt64) (x2 : UInt64) (tn : Addr) (ts : Addr) (tm : Addr) (tp : Addr) (kn : ClassId) (ks : ClassId) (km : ClassId) (kp : ClassId) (nd0 : Value) (nd1 : Value) (nd2 : Value) (s0 : Value) (s1 : Value) (s2 : Value) (m0 : Value) (m1 : Value) (m2 : Value) (p0 : Value) (p1 : Value) (p2 : Value) (u_size : Int32) (h0 : Heap) (n0 : Nat) (Z0 : n0 ≤ h0.size) (E_a1 : Exa Z h0 a1 "com/example/tandemcab/tandemcab/NodeQueue") (F_a1_nodes : Fld Z h0 a1 "com/example/tandemcab/tandemcab/NodeQueue" "nodes" "[I" (.ref tn)) (F_a1_seconds : Fld Z h0 a1 "com/example/tandemcab/tandemcab/NodeQueue" "seconds" "[D" (.ref ts)) (F_a1_metres : Fld Z h0 a1 "com/example/tandemcab/tandemcab/NodeQueue" "metres" "[D" (.ref tm)) (F_a1_position : Fld Z h0 a1 "com/example/tandemcab/tandemcab/NodeQueue" "position" "[I" (.ref tp)) (F_a1_size : Fld Z h0 a1 "com/example/tandemcab/tandemcab/NodeQueue" "size" "I" (.int u_size)) (V_tn : Arv Z h0 tn kn .int (3 : Int32) [nd0, nd1, nd2] (.int 0)) (V_ts : Arv Z h0 ts ks .double (3 : Int32) [s0, s1, s2] (.double 0)) (V_tm : Arv Z h0 tm km .double (3 : Int32) [m0, m1, m2] (.double 0)) (V_tp : Arv Z h0 tp kp .int (3 : Int32) [p0, p1, p2] (.int 0)) (g_a1 : n0 ≤ a1) (g_tn : n0 ≤ tn) (g_ts : n0 ≤ ts) (g_tm : n0 ≤ tm) (g_tp : n0 ≤ tp) (ne_a1_tn : a1 ≠ tn) (ne_a1_ts : a1 ≠ ts) (ne_a1_tm : a1 ≠ tm) (ne_a1_tp : a1 ≠ tp) (ne_tn_ts : tn ≠ ts) (ne_tn_tm : tn ≠ tm) (ne_tn_tp : tn ≠ tp) (ne_ts_tm : ts ≠ tm) (ne_ts_tp : ts ≠ tp) (ne_tm_tp : tm ≠ tp) :
    MetFree l (⟨"com/example/tandemcab/tandemcab/NodeQueue", "place", "(IDDI)V"⟩ : MethodName) (head1 (Jvm.Cond.code (⟨"com/example/tandemcab/tandemcab/NodeQueue", "place", "(IDDI)V"⟩ : MethodName) prog_49_method_10_code 7 none :: wsC) ({ frames := 0, cells := 0, slots := 0, locals := 0 } : Room)) (fun a U => a = #[(.ref a1), (.int 0), (.double x1), (.double x2), (.int 2)] ∧ Z.Warmed39 U.vm ∧ U.heap = h0) (fun _ _ _ _ _ => True) (fun _ U o U' => ∃ v L, o = .returned v ∧ Q7t33 Z a1 x1 x2 tn ts tm tp kn ks km kp nd0 nd1 nd2 s0 s1 s2 m0 m1 m2 p0 p1 p2 u_size h0 n0 v U'.heap L ∧ FrameEnd U o U' L ({ frames := 0, cells := 0, slots := 0, locals := 0 } : Room).cells ({ frames := 0, cells := 0, slots := 0, locals := 0 } : Room).slots) := by
  refine MetFree.of_bodySF (plainFor_of_name pn_0) hisR ?_
  intro p e s m args below meth c s₁ Bd hml0 hP hK
  obtain ⟨rfl, hZ, hh⟩ := hP
  have hx := Bd.exec
  have hby := Bd.bytes
  have hml : c.maxLocals = 7 := hml0
  have hown : s.vm.findClass "com/example/tandemcab/tandemcab/NodeQueue" = some m.cls := findClass_of_methodNamed Bd.named
  have hnm := (name_of_methodNamed Bd.named Bd.method).1
  have X0 : Stand p l e ({ frames := 0, cells := 0, slots := 0, locals := 0 } : Room) s m #[(.ref a1), (.int 0), (.double x1), (.double x2), (.int 2)] below meth c s₁ [] 0 0 := Stand.of_body Bd
  have e0 : s₁.heap = h0 := by rw [← hh, Bd.state]; rfl
  have NF := Fr.nil n0
  have KP : Keep h0 h0 [a1, tn, ts, tm, tp] := Keep.refl h0 _
  refine WP.go ?_
  refine WP.cast (ef_7t33 m a1 x1 x2) ?_
  refine WP.name ?_
  intro G hG
  refine WP.st (T' := s₁) (f' := (mkF m 1 #[.val (.ref a1), .val (.int 0), .val (.double x1), .second, .val (.double x2), .second, .val (.int 2)] [(.ref a1)])) (fun t k => ?_) ?_
  · refine XS.aloadN X0.here hx rfl (hb hby d7_0) rfl rfl ?_
    exact k
  obtain ⟨T295, X295, e295, st295⟩ := getF X0 hx hZ hown (host := "") (Or.inl (w_10 hw)) Via.refl e0 F_a1_nodes (g := (mkF m 1 #[.val (.ref a1), .val (.int 0), .val (.double x1), .second, .val (.double x2), .second, .val (.int 2)] [(.ref a1)])) rfl rfl (hb hby d7_1)
  refine WP.st st295 ?_
  clear st295
  show WP p.tables e below _ T295 (mkF m 4 #[.val (.ref a1), .val (.int 0), .val (.double x1), .second, .val (.double x2), .second, .val (.int 2)] [(.ref tn)])
  refine WP.st (T' := T295) (f' := (mkF m 7 #[.val (.ref a1), .val (.int 0), .val (.double x1), .second, .val (.double x2), .second, .val (.int 2)] [(.int 0), (.int 2), (.ref tn)])) (fun t k => ?_) ?_
  · refine XS.iload X295.here hx rfl (hb hby d7_4) rfl ?_
    refine XS.iloadN X295.here hx rfl (hb hby d7_6) rfl ?_
    exact k
  obtain ⟨cl296, Ar296, q296, S296, N296, H296, G296⟩ := V_tn
  have hin296 : ¬ ((2 : Int32) < 0 ∨ cl296.slots.size ≤ ((2 : Int32)).toNatClampNeg) := inb_of S296 ⟨by decide, by decide⟩
  obtain ⟨T297, h297, X297, e297, W297, st297⟩ := stI X295 hx hZ e295 Ar296 (j := (2 : Int32)) hin296 (g := (mkF m 7 #[.val (.ref a1), .val (.int 0), .val (.double x1), .second, .val (.double x2), .second, .val (.int 2)] [(.int 0), (.int 2), (.ref tn)])) rfl rfl (hb hby d7_7)
  refine WP.st st297 ?_
  clear st297
  have Vn : Arv Z h297 tn kn .int (3 : Int32) [nd0, nd1, (.int 0)] (.int 0) := Arv.set Ar296 q296 S296 N296 H296 G296 rfl W297 2 rfl (Nat.le_of_ble_eq_true rfl)
  replace E_a1 := E_a1.wr W297
  replace F_a1_nodes := F_a1_nodes.other W297 (Or.inl ne_a1_tn)
  replace F_a1_seconds := F_a1_seconds.other W297 (Or.inl ne_a1_tn)
  replace F_a1_metres := F_a1_metres.other W297 (Or.inl ne_a1_tn)
  replace F_a1_position := F_a1_position.other W297 (Or.inl ne_a1_tn)
  replace F_a1_size := F_a1_size.other W297 (Or.inl ne_a1_tn)
  replace V_ts := V_ts.other W297 (Ne.symm ne_tn_ts)
  replace V_tm := V_tm.other W297 (Ne.symm ne_tn_tm)
  replace V_tp := V_tp.other W297 (Ne.symm ne_tn_tp)
  replace Z0 := Nat.le_trans Z0 (Keep.of_wr W297).1
  replace KP := KP.wr W297 (Or.inl (List.mem_of_getElem? (i := 1) rfl))
  replace V_tn := Vn
  replace NF := Fr.snoc X297 NF g_tn
  clear W297 hin296 q296 S296 N296 H296 G296 Ar296
  show WP p.tables e below _ T297 (mkF m 8 #[.val (.ref a1), .val (.int 0), .val (.double x1), .second, .val (.double x2), .second, .val (.int 2)] [])
  refine WP.st (T' := T297) (f' := (mkF m 9 #[.val (.ref a1), .val (.int 0), .val (.double x1), .second, .val (.double x2), .second, .val (.int 2)] [(.ref a1)])) (fun t k => ?_) ?_
  · refine XS.aloadN X297.here hx rfl (hb hby d7_8) rfl rfl ?_
    exact k
  obtain ⟨T298, X298, e298, st298⟩ := getF X297 hx hZ hown (host := "") (Or.inl (w_13 hw)) Via.refl e297 F_a1_seconds (g := (mkF m 9 #[.val (.ref a1), .val (.int 0), .val (.double x1), .second, .val (.double x2), .second, .val (.int 2)] [(.ref a1)])) rfl rfl (hb hby d7_9)
  refine WP.st st298 ?_
  clear st298
  show WP p.tables e below _ T298 (mkF m 12 #[.val (.ref a1), .val (.int 0), .val (.double x1), .second, .val (.double x2), .second, .val (.int 2)] [(.ref ts)])
  refine WP.st (T' := T298) (f' := (mkF m 15 #[.val (.ref a1), .val (.int 0), .val (.double x1), .second, .val (.double x2), .second, .val (.int 2)] [(.double x1), (.int 2), (.ref ts)])) (fun t k => ?_) ?_
  · refine XS.iload X298.here hx rfl (hb hby d7_12) rfl ?_
    refine XS.dloadN X298.here hx rfl (hb hby d7_14) rfl ?_
    exact k
  obtain ⟨cl299, Ar299, q299, S299, N299, H299, G299⟩ := V_ts
  have hin299 : ¬ ((2 : Int32) < 0 ∨ cl299.slots.size ≤ ((2 : Int32)).toNatClampNeg) := inb_of S299 ⟨by decide, by decide⟩
  obtain ⟨T300, h300, X300, e300, W300, st300⟩ := stD X298 hx hZ e298 Ar299 (j := (2 : Int32)) hin299 (g := (mkF m 15 #[.val (.ref a1), .val (.int 0), .val (.double x1), .second, .val (.double x2), .second, .val (.int 2)] [(.double x1), (.int 2), (.ref ts)])) rfl rfl (hb hby d7_15)
  refine WP.st st300 ?_
  clear st300
  have Vn : Arv Z h300 ts ks .double (3 : Int32) [s0, s1, (.double x1)] (.double 0) := Arv.set Ar299 q299 S299 N299 H299 G299 rfl W300 2 rfl (Nat.le_of_ble_eq_true rfl)
  replace E_a1 := E_a1.wr W300
  replace F_a1_nodes := F_a1_nodes.other W300 (Or.inl ne_a1_ts)
  replace F_a1_seconds := F_a1_seconds.other W300 (Or.inl ne_a1_ts)
  replace F_a1_metres := F_a1_metres.other W300 (Or.inl ne_a1_ts)
  replace F_a1_position := F_a1_position.other W300 (Or.inl ne_a1_ts)
  replace F_a1_size := F_a1_size.other W300 (Or.inl ne_a1_ts)
  replace V_tm := V_tm.other W300 (Ne.symm ne_ts_tm)
  replace V_tp := V_tp.other W300 (Ne.symm ne_ts_tp)
  replace V_tn := V_tn.other W300 ne_tn_ts
  replace Z0 := Nat.le_trans Z0 (Keep.of_wr W300).1
  replace KP := KP.wr W300 (Or.inl (List.mem_of_getElem? (i := 2) rfl))
  replace V_ts := Vn
  replace NF := Fr.snoc X300 NF g_ts
  clear W300 hin299 q299 S299 N299 H299 G299 Ar299
  show WP p.tables e below _ T300 (mkF m 16 #[.val (.ref a1), .val (.int 0), .val (.double x1), .second, .val (.double x2), .second, .val (.int 2)] [])
  refine WP.st (T' := T300) (f' := (mkF m 17 #[.val (.ref a1), .val (.int 0), .val (.double x1), .second, .val (.double x2), .second, .val (.int 2)] [(.ref a1)])) (fun t k => ?_) ?_
  · refine XS.aloadN X300.here hx rfl (hb hby d7_16) rfl rfl ?_
    exact k
  obtain ⟨T301, X301, e301, st301⟩ := getF X300 hx hZ hown (host := "") (Or.inl (w_15 hw)) Via.refl e300 F_a1_metres (g := (mkF m 17 #[.val (.ref a1), .val (.int 0), .val (.double x1), .second, .val (.double x2), .second, .val (.int 2)] [(.ref a1)])) rfl rfl (hb hby d7_17)
  refine WP.st st301 ?_
  clear st301
  show WP p.tables e below _ T301 (mkF m 20 #[.val (.ref a1), .val (.int 0), .val (.double x1), .second, .val (.double x2), .second, .val (.int 2)] [(.ref tm)])
  refine WP.st (T' := T301) (f' := (mkF m 24 #[.val (.ref a1), .val (.int 0), .val (.double x1), .second, .val (.double x2), .second, .val (.int 2)] [(.double x2), (.int 2), (.ref tm)])) (fun t k => ?_) ?_
  · refine XS.iload X301.here hx rfl (hb hby d7_20) rfl ?_
    refine XS.dload X301.here hx rfl (hb hby d7_22) rfl ?_
    exact k
  obtain ⟨cl302, Ar302, q302, S302, N302, H302, G302⟩ := V_tm
  have hin302 : ¬ ((2 : Int32) < 0 ∨ cl302.slots.size ≤ ((2 : Int32)).toNatClampNeg) := inb_of S302 ⟨by decide, by decide⟩
  obtain ⟨T303, h303, X303, e303, W303, st303⟩ := stD X301 hx hZ e301 Ar302 (j := (2 : Int32)) hin302 (g := (mkF m 24 #[.val (.ref a1), .val (.int 0), .val (.double x1), .second, .val (.double x2), .second, .val (.int 2)] [(.double x2), (.int 2), (.ref tm)])) rfl rfl (hb hby d7_24)
  refine WP.st st303 ?_
  clear st303
  have Vn : Arv Z h303 tm km .double (3 : Int32) [m0, m1, (.double x2)] (.double 0) := Arv.set Ar302 q302 S302 N302 H302 G302 rfl W303 2 rfl (Nat.le_of_ble_eq_true rfl)
  replace E_a1 := E_a1.wr W303
  replace F_a1_nodes := F_a1_nodes.other W303 (Or.inl ne_a1_tm)
  replace F_a1_seconds := F_a1_seconds.other W303 (Or.inl ne_a1_tm)
  replace F_a1_metres := F_a1_metres.other W303 (Or.inl ne_a1_tm)
  replace F_a1_position := F_a1_position.other W303 (Or.inl ne_a1_tm)
  replace F_a1_size := F_a1_size.other W303 (Or.inl ne_a1_tm)
  replace V_tp := V_tp.other W303 (Ne.symm ne_tm_tp)
  replace V_tn := V_tn.other W303 ne_tn_tm
  replace V_ts := V_ts.other W303 ne_ts_tm
  replace Z0 := Nat.le_trans Z0 (Keep.of_wr W303).1
  replace KP := KP.wr W303 (Or.inl (List.mem_of_getElem? (i := 3) rfl))
  replace V_tm := Vn
  replace NF := Fr.snoc X303 NF g_tm
  clear W303 hin302 q302 S302 N302 H302 G302 Ar302
  show WP p.tables e below _ T303 (mkF m 25 #[.val (.ref a1), .val (.int 0), .val (.double x1), .second, .val (.double x2), .second, .val (.int 2)] [])
  refine WP.st (T' := T303) (f' := (mkF m 26 #[.val (.ref a1), .val (.int 0), .val (.double x1), .second, .val (.double x2), .second, .val (.int 2)] [(.ref a1)])) (fun t k => ?_) ?_
  · refine XS.aloadN X303.here hx rfl (hb hby d7_25) rfl rfl ?_
    exact k
  obtain ⟨T304, X304, e304, st304⟩ := getF X303 hx hZ hown (host := "") (Or.inl (w_17 hw)) Via.refl e303 F_a1_position (g := (mkF m 26 #[.val (.ref a1), .val (.int 0), .val (.double x1), .second, .val (.double x2), .second, .val (.int 2)] [(.ref a1)])) rfl rfl (hb hby d7_26)
  refine WP.st st304 ?_
  clear st304
  show WP p.tables e below _ T304 (mkF m 29 #[.val (.ref a1), .val (.int 0), .val (.double x1), .second, .val (.double x2), .second, .val (.int 2)] [(.ref tp)])
  refine WP.st (T' := T304) (f' := (mkF m 34 #[.val (.ref a1), .val (.int 0), .val (.double x1), .second, .val (.double x2), .second, .val (.int 2)] [(.int ((2 : Int32) + (1 : Int32))), (.int 0), (.ref tp)])) (fun t k => ?_) ?_
  · refine XS.iloadN X304.here hx rfl (hb hby d7_29) rfl ?_
    refine XS.iload X304.here hx rfl (hb hby d7_30) rfl ?_
    refine XS.iconst X304.here hx rfl (hb hby d7_32) ?_
    refine XS.iadd X304.here hx rfl (hb hby d7_33) rfl ?_
    exact k
  rw [show ((2 : Int32) + (1 : Int32)) = (3 : Int32) from by decide]
  show WP p.tables e below _ T304 (mkF m 34 #[.val (.ref a1), .val (.int 0), .val (.double x1), .second, .val (.double x2), .second, .val (.int 2)] [(.int 3), (.int 0), (.ref tp)])
  obtain ⟨cl305, Ar305, q305, S305, N305, H305, G305⟩ := V_tp
  have hin305 : ¬ ((0 : Int32) < 0 ∨ cl305.slots.size ≤ ((0 : Int32)).toNatClampNeg) := inb_of S305 ⟨by decide, by decide⟩
  obtain ⟨T306, h306, X306, e306, W306, st306⟩ := stI X304 hx hZ e304 Ar305 (j := (0 : Int32)) hin305 (g := (mkF m 34 #[.val (.ref a1), .val (.int 0), .val (.double x1), .second, .val (.double x2), .second, .val (.int 2)] [(.int 3), (.int 0), (.ref tp)])) rfl rfl (hb hby d7_34)
  refine WP.st st306 ?_
  clear st306
  have Vn : Arv Z h306 tp kp .int (3 : Int32) [(.int 3), p1, p2] (.int 0) := Arv.set Ar305 q305 S305 N305 H305 G305 rfl W306 0 rfl (Nat.le_of_ble_eq_true rfl)
  replace E_a1 := E_a1.wr W306
  replace F_a1_nodes := F_a1_nodes.other W306 (Or.inl ne_a1_tp)
  replace F_a1_seconds := F_a1_seconds.other W306 (Or.inl ne_a1_tp)
  replace F_a1_metres := F_a1_metres.other W306 (Or.inl ne_a1_tp)
  replace F_a1_position := F_a1_position.other W306 (Or.inl ne_a1_tp)
  replace F_a1_size := F_a1_size.other W306 (Or.inl ne_a1_tp)
  replace V_tn := V_tn.other W306 ne_tn_tp
  replace V_ts := V_ts.other W306 ne_ts_tp
  replace V_tm := V_tm.other W306 ne_tm_tp
  replace Z0 := Nat.le_trans Z0 (Keep.of_wr W306).1
  replace KP := KP.wr W306 (Or.inl (List.mem_of_getElem? (i := 4) rfl))
  replace V_tp := Vn
  replace NF := Fr.snoc X306 NF g_tp
  clear W306 hin305 q305 S305 N305 H305 G305 Ar305
  show WP p.tables e below _ T306 (mkF m 35 #[.val (.ref a1), .val (.int 0), .val (.double x1), .second, .val (.double x2), .second, .val (.int 2)] [])
  subst hG
  obtain ⟨fs, hr, hrun, hended, hW, hsame⟩ := X306.leave (v := none) (fun _ => rfl)
  refine WP.fin ⟨_, _, ?_, hrun, hended, _, _, rfl, ?_, ⟨_, rfl⟩, hW, hsame.mono (by decide) (by decide)⟩
  · exact X306.returnOut hx Bd.returns (hb hby d7_35) hr
  · show Q7t33 Z a1 x1 x2 tn ts tm tp kn ks km kp nd0 nd1 nd2 s0 s1 s2 m0 m1 m2 p0 p1 p2 u_size h0 n0 _ T306.heap _
    rw [e306]
    exact ⟨rfl, NF, KP, F_a1_nodes, F_a1_seconds, F_a1_metres, F_a1_position, F_a1_size, V_tn, V_ts, V_tm, V_tp⟩
theorem ef_6t32 (m : MethodId) (z0 : Addr) (z2 : UInt64) (z3 : UInt64) : entryFrame m #[(.ref z0), (.int 0), (.double z2), (.double z3), (.int 2)] 8 = mkF m 0 #[.val (.ref z0), .val (.int 0), .val (.double z2), .second, .val (.double z3), .second, .val (.int 2), .unset] [] := by
  all_goals first | (simp [entryFrame, mkF, argsToLocals, Value.category]; done) | rfl
def Q6t32 (Z : State) (a1 : Addr) (x1 : UInt64) (x2 : UInt64) (tn : Addr) (ts : Addr) (tm : Addr) (tp : Addr) (kn : ClassId) (ks : ClassId) (km : ClassId) (kp : ClassId) (nd1 : Value) (nd2 : Value) (y1 : UInt64) (s1 : Value) (s2 : Value) (y2 : UInt64) (m1 : Value) (m2 : Value) (p0 : Value) (p1 : Value) (p2 : Value) (u_size : Int32) (h0 : Heap) (n0 : Nat) (v : Option Value) (h : Heap) (L : List Loc) : Prop := v = none ∧ Fr n0 L ∧ Keep h0 h [a1, tn, ts, tm, tp] ∧ Fld Z h a1 "com/example/tandemcab/tandemcab/NodeQueue" "nodes" "[I" (.ref tn) ∧ Fld Z h a1 "com/example/tandemcab/tandemcab/NodeQueue" "seconds" "[D" (.ref ts) ∧ Fld Z h a1 "com/example/tandemcab/tandemcab/NodeQueue" "metres" "[D" (.ref tm) ∧ Fld Z h a1 "com/example/tandemcab/tandemcab/NodeQueue" "position" "[I" (.ref tp) ∧ Fld Z h a1 "com/example/tandemcab/tandemcab/NodeQueue" "size" "I" (.int u_size) ∧ (Arv Z h tn kn .int (3 : Int32) [(.int 2), nd1, (.int 0)] (.int 0)) ∧ (Arv Z h ts ks .double (3 : Int32) [(.double y1), s1, (.double x1)] (.double 0)) ∧ (Arv Z h tm km .double (3 : Int32) [(.double y2), m1, (.double x2)] (.double 0)) ∧ (Arv Z h tp kp .int (3 : Int32) [(.int 3), p1, p2] (.int 0))
set_option maxRecDepth 65536 in
set_option maxHeartbeats 40000000 in
theorem rm6t32 (l : Launch) (Z : State) (a0 : Array Value) (hw : ∀ d ∈ tables_1, d.before a0 Z = true) (wsC : List Jvm.Cond) (a1 : Addr) (x1 : UInt64) (x2 : UInt64) (tn : Addr) (ts : Addr) (tm : Addr) (tp : Addr) (kn : ClassId) (ks : ClassId) (km : ClassId) (kp : ClassId) (nd1 : Value) (nd2 : Value) (y1 : UInt64) (s1 : Value) (s2 : Value) (y2 : UInt64) (m1 : Value) (m2 : Value) (p0 : Value) (p1 : Value) (p2 : Value) (u_size : Int32) (h0 : Heap) (n0 : Nat) (Z0 : n0 ≤ h0.size) (E_a1 : Exa Z h0 a1 "com/example/tandemcab/tandemcab/NodeQueue") (F_a1_nodes : Fld Z h0 a1 "com/example/tandemcab/tandemcab/NodeQueue" "nodes" "[I" (.ref tn)) (F_a1_seconds : Fld Z h0 a1 "com/example/tandemcab/tandemcab/NodeQueue" "seconds" "[D" (.ref ts)) (F_a1_metres : Fld Z h0 a1 "com/example/tandemcab/tandemcab/NodeQueue" "metres" "[D" (.ref tm)) (F_a1_position : Fld Z h0 a1 "com/example/tandemcab/tandemcab/NodeQueue" "position" "[I" (.ref tp)) (F_a1_size : Fld Z h0 a1 "com/example/tandemcab/tandemcab/NodeQueue" "size" "I" (.int u_size)) (V_tn : Arv Z h0 tn kn .int (3 : Int32) [(.int 2), nd1, nd2] (.int 0)) (V_ts : Arv Z h0 ts ks .double (3 : Int32) [(.double y1), s1, s2] (.double 0)) (V_tm : Arv Z h0 tm km .double (3 : Int32) [(.double y2), m1, m2] (.double 0)) (V_tp : Arv Z h0 tp kp .int (3 : Int32) [p0, p1, p2] (.int 0)) (g_a1 : n0 ≤ a1) (g_tn : n0 ≤ tn) (g_ts : n0 ≤ ts) (g_tm : n0 ≤ tm) (g_tp : n0 ≤ tp) (ne_a1_tn : a1 ≠ tn) (ne_a1_ts : a1 ≠ ts) (ne_a1_tm : a1 ≠ tm) (ne_a1_tp : a1 ≠ tp) (ne_tn_ts : tn ≠ ts) (ne_tn_tm : tn ≠ tm) (ne_tn_tp : tn ≠ tp) (ne_ts_tm : ts ≠ tm) (ne_ts_tp : ts ≠ tp) (ne_tm_tp : tm ≠ tp) (hbef : (own_before x1 x2 y1 y2) = (0 : Int32)) :
    MetFree l (⟨"com/example/tandemcab/tandemcab/NodeQueue", "up", "(IDDI)V"⟩ : MethodName) (head1 (Jvm.Cond.code (⟨"com/example/tandemcab/tandemcab/NodeQueue", "up", "(IDDI)V"⟩ : MethodName) prog_49_method_7_code 8 none :: wsC) ({ frames := 1, cells := 0, slots := 0, locals := 19 } : Room)) (fun a U => a = #[(.ref a1), (.int 0), (.double x1), (.double x2), (.int 2)] ∧ Z.Warmed39 U.vm ∧ U.heap = h0) (fun _ _ _ _ _ => True) (fun _ U o U' => ∃ v L, o = .returned v ∧ Q6t32 Z a1 x1 x2 tn ts tm tp kn ks km kp nd1 nd2 y1 s1 s2 y2 m1 m2 p0 p1 p2 u_size h0 n0 v U'.heap L ∧ FrameEnd U o U' L ({ frames := 1, cells := 0, slots := 0, locals := 19 } : Room).cells ({ frames := 1, cells := 0, slots := 0, locals := 19 } : Room).slots) := by
  refine MetFree.of_bodySF (plainFor_of_name pn_0) hisR ?_
  intro p e s m args below meth c s₁ Bd hml0 hP hK
  obtain ⟨rfl, hZ, hh⟩ := hP
  have hx := Bd.exec
  have hby := Bd.bytes
  have hml : c.maxLocals = 8 := hml0
  have hown : s.vm.findClass "com/example/tandemcab/tandemcab/NodeQueue" = some m.cls := findClass_of_methodNamed Bd.named
  have hnm := (name_of_methodNamed Bd.named Bd.method).1
  have X0 : Stand p l e ({ frames := 1, cells := 0, slots := 0, locals := 19 } : Room) s m #[(.ref a1), (.int 0), (.double x1), (.double x2), (.int 2)] below meth c s₁ [] 0 0 := Stand.of_body Bd
  have e0 : s₁.heap = h0 := by rw [← hh, Bd.state]; rfl
  have NF := Fr.nil n0
  have KP : Keep h0 h0 [a1, tn, ts, tm, tp] := Keep.refl h0 _
  refine WP.go ?_
  refine WP.cast (ef_6t32 m a1 x1 x2) ?_
  refine WP.name ?_
  intro G hG
  refine WP.st (T' := s₁) (f' := (mkF m 9 #[.val (.ref a1), .val (.int 0), .val (.double x1), .second, .val (.double x2), .second, .val (.int 2), .unset] [(.int ((2 : Int32) - (1 : Int32)))])) (fun t k => ?_) ?_
  · refine XS.iload X0.here hx rfl (hb hby d6_0) rfl ?_
    refine XS.ifNo X0.here hx rfl (hb hby d6_2) rfl ((if0 _ _).trans (tlt (by decide : (0 : Int32) < (2 : Int32))).2.2.2) ?_
    refine XS.iload X0.here hx rfl (hb hby d6_5) rfl ?_
    refine XS.iconst X0.here hx rfl (hb hby d6_7) ?_
    refine XS.isub X0.here hx rfl (hb hby d6_8) rfl ?_
    exact k
  rw [show ((2 : Int32) - (1 : Int32)) = (1 : Int32) from by decide]
  show WP p.tables e below _ s₁ (mkF m 9 #[.val (.ref a1), .val (.int 0), .val (.double x1), .second, .val (.double x2), .second, .val (.int 2), .unset] [(.int 1)])
  refine WP.st (T' := s₁) (f' := (mkF m 11 #[.val (.ref a1), .val (.int 0), .val (.double x1), .second, .val (.double x2), .second, .val (.int 2), .unset] [(.int (((1 : Int32).toUInt32 >>> ((1 : Int32) &&& 31).toUInt32).toInt32))])) (fun t k => ?_) ?_
  · refine XS.iconst X0.here hx rfl (hb hby d6_9) ?_
    refine XS.iushr X0.here hx rfl (hb hby d6_10) rfl ?_
    exact k
  rw [show (((1 : Int32).toUInt32 >>> ((1 : Int32) &&& 31).toUInt32).toInt32) = (0 : Int32) from by decide]
  show WP p.tables e below _ s₁ (mkF m 11 #[.val (.ref a1), .val (.int 0), .val (.double x1), .second, .val (.double x2), .second, .val (.int 2), .unset] [(.int 0)])
  refine WP.st (T' := s₁) (f' := (mkF m 17 #[.val (.ref a1), .val (.int 0), .val (.double x1), .second, .val (.double x2), .second, .val (.int 2), .val (.int 0)] [(.ref a1), (.double x2), (.double x1)])) (fun t k => ?_) ?_
  · refine XS.istore X0.here hx rfl (hb hby d6_11) rfl (l' := #[.val (.ref a1), .val (.int 0), .val (.double x1), .second, .val (.double x2), .second, .val (.int 2), .val (.int 0)]) rfl ?_
    refine XS.dloadN X0.here hx rfl (hb hby d6_13) rfl ?_
    refine XS.dload X0.here hx rfl (hb hby d6_14) rfl ?_
    refine XS.aloadN X0.here hx rfl (hb hby d6_16) rfl rfl ?_
    exact k
  obtain ⟨T307, X307, e307, st307⟩ := getF X0 hx hZ hown (host := "") (Or.inl (w_13 hw)) Via.refl e0 F_a1_seconds (g := (mkF m 17 #[.val (.ref a1), .val (.int 0), .val (.double x1), .second, .val (.double x2), .second, .val (.int 2), .val (.int 0)] [(.ref a1), (.double x2), (.double x1)])) rfl rfl (hb hby d6_17)
  refine WP.st st307 ?_
  clear st307
  show WP p.tables e below _ T307 (mkF m 20 #[.val (.ref a1), .val (.int 0), .val (.double x1), .second, .val (.double x2), .second, .val (.int 2), .val (.int 0)] [(.ref ts), (.double x2), (.double x1)])
  refine WP.st (T' := T307) (f' := (mkF m 22 #[.val (.ref a1), .val (.int 0), .val (.double x1), .second, .val (.double x2), .second, .val (.int 2), .val (.int 0)] [(.int 0), (.ref ts), (.double x2), (.double x1)])) (fun t k => ?_) ?_
  · refine XS.iload X307.here hx rfl (hb hby d6_20) rfl ?_
    exact k
  obtain ⟨cl308, Ar308, hin308, hat308, -⟩ := V_ts.rd (j := (0 : Int32)) ⟨by decide, by decide⟩
  replace hat308 : cl308.slots[((0 : Int32)).toNatClampNeg]? = some (.double y1) := hat308
  refine WP.st (T' := T307) (f' := (mkF m 24 #[.val (.ref a1), .val (.int 0), .val (.double x1), .second, .val (.double x2), .second, .val (.int 2), .val (.int 0)] [(.ref a1), (.double y1), (.double x2), (.double x1)])) (fun t k => ?_) ?_
  · refine X307.daload hx (j := (0 : Int32)) (v := (.double y1)) (by rw [e307]; exact Ar308.1) (State.isArrayOf_alike hZ.alike Ar308.2.1) Ar308.2.2 hin308 hat308 (g := (mkF m 22 #[.val (.ref a1), .val (.int 0), .val (.double x1), .second, .val (.double x2), .second, .val (.int 2), .val (.int 0)] [(.int 0), (.ref ts), (.double x2), (.double x1)])) rfl rfl (hb hby d6_22) _ ?_
    refine XS.aloadN X307.here hx rfl (hb hby d6_23) rfl rfl ?_
    exact k
  obtain ⟨T309, X309, e309, st309⟩ := getF X307 hx hZ hown (host := "") (Or.inl (w_15 hw)) Via.refl e307 F_a1_metres (g := (mkF m 24 #[.val (.ref a1), .val (.int 0), .val (.double x1), .second, .val (.double x2), .second, .val (.int 2), .val (.int 0)] [(.ref a1), (.double y1), (.double x2), (.double x1)])) rfl rfl (hb hby d6_24)
  refine WP.st st309 ?_
  clear st309
  show WP p.tables e below _ T309 (mkF m 27 #[.val (.ref a1), .val (.int 0), .val (.double x1), .second, .val (.double x2), .second, .val (.int 2), .val (.int 0)] [(.ref tm), (.double y1), (.double x2), (.double x1)])
  refine WP.st (T' := T309) (f' := (mkF m 29 #[.val (.ref a1), .val (.int 0), .val (.double x1), .second, .val (.double x2), .second, .val (.int 2), .val (.int 0)] [(.int 0), (.ref tm), (.double y1), (.double x2), (.double x1)])) (fun t k => ?_) ?_
  · refine XS.iload X309.here hx rfl (hb hby d6_27) rfl ?_
    exact k
  obtain ⟨cl310, Ar310, hin310, hat310, -⟩ := V_tm.rd (j := (0 : Int32)) ⟨by decide, by decide⟩
  replace hat310 : cl310.slots[((0 : Int32)).toNatClampNeg]? = some (.double y2) := hat310
  refine WP.st (T' := T309) (f' := (mkF m 30 #[.val (.ref a1), .val (.int 0), .val (.double x1), .second, .val (.double x2), .second, .val (.int 2), .val (.int 0)] [(.double y2), (.double y1), (.double x2), (.double x1)])) (fun t k => ?_) ?_
  · refine X309.daload hx (j := (0 : Int32)) (v := (.double y2)) (by rw [e309]; exact Ar310.1) (State.isArrayOf_alike hZ.alike Ar310.2.1) Ar310.2.2 hin310 hat310 (g := (mkF m 29 #[.val (.ref a1), .val (.int 0), .val (.double x1), .second, .val (.double x2), .second, .val (.int 2), .val (.int 0)] [(.int 0), (.ref tm), (.double y1), (.double x2), (.double x1)])) rfl rfl (hb hby d6_29) _ ?_
    exact k
  obtain ⟨_, _, ⟨T311, L311, k311, n311⟩, -, X311, ⟨Lc311, hQ311, l311, y311, z311⟩, st311⟩ := Jvm.LawKit.callS X309 hx (y := (⟨"com/example/tandemcab/tandemcab/NodeQueue", "before", "(DDDD)Z"⟩ : MethodName)) hown (mvT hZ (w_46 hw)) (mvT hZ (w_47 hw)) (mvT hZ (w_2 hw)) (mvT hZ (w_48 hw)) (by decide) (backOf (W := 0) (rm8 l Z a0 hw [] x1 x2 y1 y2 h0 n0 Z0 ) hZ (w_48 hw) (w_2 hw) (by decide) (by decide)) (g := (mkF m 30 #[.val (.ref a1), .val (.int 0), .val (.double x1), .second, .val (.double x2), .second, .val (.int 2), .val (.int 0)] [(.double y2), (.double y1), (.double x2), (.double x1)])) rfl (by rw [hml]; rfl) (argsL := [(.double x1), (.double x2), (.double y1), (.double y2)]) (rest := []) (lenOf pd_4 rfl) rfl (by show 2 * 0 + _ ≤ _; exact Nat.le_of_eq rfl) (hb hby d6_30) (fun _ _ => ⟨rfl, e309, (by decide : 0 + 0 ≤ _), (by decide : 0 + 0 ≤ _)⟩)
  dsimp only [Pt.U, Pt.locs, Pt.cells, Pt.slots] at X311 l311 y311 z311 st311 hQ311
  subst l311 y311 z311
  obtain ⟨rfl, Nq311, Kq311⟩ := hQ311
  replace NF := Fr.app NF Nq311
  clear Nq311
  refine WP.st st311 ?_
  clear st311
  replace Kq311 := Kq311.trans (rfl : h0 = h0)
  show WP p.tables e below _ T311 (mkF m 33 #[.val (.ref a1), .val (.int 0), .val (.double x1), .second, .val (.double x2), .second, .val (.int 2), .val (.int 0)] [(.int (own_before x1 x2 y1 y2))])
  refine WP.st (T' := T311) (f' := (mkF m 61 #[.val (.ref a1), .val (.int 0), .val (.double x1), .second, .val (.double x2), .second, .val (.int 2), .val (.int 0)] [(.int 2), (.double x2), (.double x1), (.int 0), (.ref a1)])) (fun t k => ?_) ?_
  · refine XS.ifNo X311.here hx rfl (hb hby d6_33) rfl ((if0 _ _).trans (teq hbef).2) ?_
    refine XS.goto X311.here hx rfl (pc0 := 36) (pc' := 54) rfl (hb hby d6_36) (by decide) (by decide) ?_
    refine XS.aloadN X311.here hx rfl (hb hby d6_54) rfl rfl ?_
    refine XS.iloadN X311.here hx rfl (hb hby d6_55) rfl ?_
    refine XS.dloadN X311.here hx rfl (hb hby d6_56) rfl ?_
    refine XS.dload X311.here hx rfl (hb hby d6_57) rfl ?_
    refine XS.iload X311.here hx rfl (hb hby d6_59) rfl ?_
    exact k
  obtain ⟨cq312, q312, q312'⟩ := E_a1.cell
  obtain ⟨_, _, ⟨T312, L312, k312, n312⟩, -, X312, ⟨Lc312, hQ312, l312, y312, z312⟩, st312⟩ := X311.privateBack hx (y := (⟨"com/example/tandemcab/tandemcab/NodeQueue", "place", "(IDDI)V"⟩ : MethodName)) hown (mvT hZ (w_41 hw)) (mvT hZ (w_42 hw)) (ownSel (y := (⟨"com/example/tandemcab/tandemcab/NodeQueue", "place", "(IDDI)V"⟩ : MethodName)) (mvT hZ (w_22 hw)) rfl (Cond.privateMethod_at (mvP hZ (w_43 hw) (args := #[]))) (mvT hZ (w_42 hw)) (by decide)) (Cond.privateMethod_at (mvP hZ (w_43 hw) (args := #[]))) (mvT hZ (w_44 hw)) (by decide) (backOf (W := 0) (rm7t33 l Z a0 hw [] a1 x1 x2 tn ts tm tp kn ks km kp (.int 2) nd1 nd2 (.double y1) s1 s2 (.double y2) m1 m2 p0 p1 p2 u_size h0 n0 Z0 E_a1 F_a1_nodes F_a1_seconds F_a1_metres F_a1_position F_a1_size V_tn V_ts V_tm V_tp g_a1 g_tn g_ts g_tm g_tp ne_a1_tn ne_a1_ts ne_a1_tm ne_a1_tp ne_tn_ts ne_tn_tm ne_tn_tp ne_ts_tm ne_ts_tp ne_tm_tp) hZ (w_44 hw) (w_2 hw) (by decide) (by decide)) (g := (mkF m 61 #[.val (.ref a1), .val (.int 0), .val (.double x1), .second, .val (.double x2), .second, .val (.int 2), .val (.int 0)] [(.int 2), (.double x2), (.double x1), (.int 0), (.ref a1)])) rfl (by rw [hml]; rfl) (Steps.refl _) (a := a1) (by rw [Kq311]; exact q312) q312' (argsL := [(.int 0), (.double x1), (.double x2), (.int 2)]) (rest := []) (lenOf pd_2 rfl) rfl (by show 2 * 0 + _ ≤ _; exact Nat.le_of_eq rfl) (hb hby d6_61) (fun _ _ => ⟨rfl, Kq311, (by decide : 0 + 0 ≤ _), (by decide : 0 + 0 ≤ _)⟩)
  dsimp only [Pt.U, Pt.locs, Pt.cells, Pt.slots] at X312 l312 y312 z312 st312 hQ312
  subst l312 y312 z312
  obtain ⟨rfl, Nq312, Kq312, nF312_a1_nodes, nF312_a1_seconds, nF312_a1_metres, nF312_a1_position, nF312_a1_size, nA312_tn, nA312_ts, nA312_tm, nA312_tp⟩ := hQ312
  replace NF := Fr.app NF Nq312
  clear Nq312
  refine WP.tr st312 ?_
  clear st312
  obtain ⟨h312, e312⟩ : ∃ h, T312.heap = h := ⟨_, rfl⟩
  rw [e312] at Kq312 nF312_a1_nodes nF312_a1_seconds nF312_a1_metres nF312_a1_position nF312_a1_size nA312_tn nA312_ts nA312_tm nA312_tp
  replace E_a1 := E_a1.keep Kq312
  clear F_a1_nodes
  clear F_a1_seconds
  clear F_a1_metres
  clear F_a1_position
  clear F_a1_size
  clear V_tn
  clear V_ts
  clear V_tm
  clear V_tp
  replace Z0 := Nat.le_trans Z0 Kq312.1
  replace KP := KP.trans Kq312 (allS (Or.inl (List.mem_of_getElem? (i := 0) rfl)) (allS (Or.inl (List.mem_of_getElem? (i := 1) rfl)) (allS (Or.inl (List.mem_of_getElem? (i := 2) rfl)) (allS (Or.inl (List.mem_of_getElem? (i := 3) rfl)) (allS (Or.inl (List.mem_of_getElem? (i := 4) rfl)) all0)))))
  clear Kq312
  have F_a1_nodes := nF312_a1_nodes
  clear nF312_a1_nodes
  have F_a1_seconds := nF312_a1_seconds
  clear nF312_a1_seconds
  have F_a1_metres := nF312_a1_metres
  clear nF312_a1_metres
  have F_a1_position := nF312_a1_position
  clear nF312_a1_position
  have F_a1_size := nF312_a1_size
  clear nF312_a1_size
  have V_tn := nA312_tn
  clear nA312_tn
  have V_ts := nA312_ts
  clear nA312_ts
  have V_tm := nA312_tm
  clear nA312_tm
  have V_tp := nA312_tp
  clear nA312_tp
  show WP p.tables e below _ T312 (mkF m 64 #[.val (.ref a1), .val (.int 0), .val (.double x1), .second, .val (.double x2), .second, .val (.int 2), .val (.int 0)] [])
  subst hG
  obtain ⟨fs, hr, hrun, hended, hW, hsame⟩ := X312.leave (v := none) (fun _ => rfl)
  refine WP.fin ⟨_, _, ?_, hrun, hended, _, _, rfl, ?_, ⟨_, rfl⟩, hW, hsame.mono (by decide) (by decide)⟩
  · exact X312.returnOut hx Bd.returns (hb hby d6_64) hr
  · show Q6t32 Z a1 x1 x2 tn ts tm tp kn ks km kp nd1 nd2 y1 s1 s2 y2 m1 m2 p0 p1 p2 u_size h0 n0 _ T312.heap _
    rw [e312]
    exact ⟨rfl, NF, KP, F_a1_nodes, F_a1_seconds, F_a1_metres, F_a1_position, F_a1_size, V_tn, V_ts, V_tm, V_tp⟩
theorem ef_5t31 (m : MethodId) (z0 : Addr) (z2 : UInt64) (z3 : UInt64) : entryFrame m #[(.ref z0), (.int 0), (.double z2), (.double z3)] 7 = mkF m 0 #[.val (.ref z0), .val (.int 0), .val (.double z2), .second, .val (.double z3), .second, .unset] [] := by
  all_goals first | (simp [entryFrame, mkF, argsToLocals, Value.category]; done) | rfl
def Q5t31 (Z : State) (a1 : Addr) (x1 : UInt64) (x2 : UInt64) (tn : Addr) (ts : Addr) (tm : Addr) (tp : Addr) (kn : ClassId) (ks : ClassId) (km : ClassId) (kp : ClassId) (nd1 : Value) (nd2 : Value) (y1 : UInt64) (s1 : Value) (s2 : Value) (y2 : UInt64) (m1 : Value) (m2 : Value) (p1 : Value) (p2 : Value) (h0 : Heap) (n0 : Nat) (v : Option Value) (h : Heap) (L : List Loc) : Prop := v = none ∧ Fr n0 L ∧ Keep h0 h [a1, tn, ts, tm, tp] ∧ Fld Z h a1 "com/example/tandemcab/tandemcab/NodeQueue" "nodes" "[I" (.ref tn) ∧ Fld Z h a1 "com/example/tandemcab/tandemcab/NodeQueue" "seconds" "[D" (.ref ts) ∧ Fld Z h a1 "com/example/tandemcab/tandemcab/NodeQueue" "metres" "[D" (.ref tm) ∧ Fld Z h a1 "com/example/tandemcab/tandemcab/NodeQueue" "position" "[I" (.ref tp) ∧ Fld Z h a1 "com/example/tandemcab/tandemcab/NodeQueue" "size" "I" (.int 3) ∧ (Arv Z h tn kn .int (3 : Int32) [(.int 2), nd1, (.int 0)] (.int 0)) ∧ (Arv Z h ts ks .double (3 : Int32) [(.double y1), s1, (.double x1)] (.double 0)) ∧ (Arv Z h tm km .double (3 : Int32) [(.double y2), m1, (.double x2)] (.double 0)) ∧ (Arv Z h tp kp .int (3 : Int32) [(.int 3), p1, p2] (.int 0))
set_option maxRecDepth 65536 in
set_option maxHeartbeats 40000000 in
theorem rm5t31 (l : Launch) (Z : State) (a0 : Array Value) (hw : ∀ d ∈ tables_1, d.before a0 Z = true) (wsC : List Jvm.Cond) (a1 : Addr) (x1 : UInt64) (x2 : UInt64) (tn : Addr) (ts : Addr) (tm : Addr) (tp : Addr) (kn : ClassId) (ks : ClassId) (km : ClassId) (kp : ClassId) (nd1 : Value) (nd2 : Value) (y1 : UInt64) (s1 : Value) (s2 : Value) (y2 : UInt64) (m1 : Value) (m2 : Value) (p1 : Value) (p2 : Value) (h0 : Heap) (n0 : Nat) (Z0 : n0 ≤ h0.size) (E_a1 : Exa Z h0 a1 "com/example/tandemcab/tandemcab/NodeQueue") (F_a1_nodes : Fld Z h0 a1 "com/example/tandemcab/tandemcab/NodeQueue" "nodes" "[I" (.ref tn)) (F_a1_seconds : Fld Z h0 a1 "com/example/tandemcab/tandemcab/NodeQueue" "seconds" "[D" (.ref ts)) (F_a1_metres : Fld Z h0 a1 "com/example/tandemcab/tandemcab/NodeQueue" "metres" "[D" (.ref tm)) (F_a1_position : Fld Z h0 a1 "com/example/tandemcab/tandemcab/NodeQueue" "position" "[I" (.ref tp)) (F_a1_size : Fld Z h0 a1 "com/example/tandemcab/tandemcab/NodeQueue" "size" "I" (.int 2)) (V_tn : Arv Z h0 tn kn .int (3 : Int32) [(.int 2), nd1, nd2] (.int 0)) (V_ts : Arv Z h0 ts ks .double (3 : Int32) [(.double y1), s1, s2] (.double 0)) (V_tm : Arv Z h0 tm km .double (3 : Int32) [(.double y2), m1, m2] (.double 0)) (V_tp : Arv Z h0 tp kp .int (3 : Int32) [(.int 0), p1, p2] (.int 0)) (g_a1 : n0 ≤ a1) (g_tn : n0 ≤ tn) (g_ts : n0 ≤ ts) (g_tm : n0 ≤ tm) (g_tp : n0 ≤ tp) (ne_a1_tn : a1 ≠ tn) (ne_a1_ts : a1 ≠ ts) (ne_a1_tm : a1 ≠ tm) (ne_a1_tp : a1 ≠ tp) (ne_tn_ts : tn ≠ ts) (ne_tn_tm : tn ≠ tm) (ne_tn_tp : tn ≠ tp) (ne_ts_tm : ts ≠ tm) (ne_ts_tp : ts ≠ tp) (ne_tm_tp : tm ≠ tp) (hbef : (own_before x1 x2 y1 y2) = (0 : Int32)) :
    MetFree l (⟨"com/example/tandemcab/tandemcab/NodeQueue", "offer", "(IDD)V"⟩ : MethodName) (head1 (Jvm.Cond.code (⟨"com/example/tandemcab/tandemcab/NodeQueue", "offer", "(IDD)V"⟩ : MethodName) prog_49_method_5_code 7 none :: wsC) ({ frames := 2, cells := 0, slots := 0, locals := 38 } : Room)) (fun a U => a = #[(.ref a1), (.int 0), (.double x1), (.double x2)] ∧ Z.Warmed39 U.vm ∧ U.heap = h0) (fun _ _ _ _ _ => True) (fun _ U o U' => ∃ v L, o = .returned v ∧ Q5t31 Z a1 x1 x2 tn ts tm tp kn ks km kp nd1 nd2 y1 s1 s2 y2 m1 m2 p1 p2 h0 n0 v U'.heap L ∧ FrameEnd U o U' L ({ frames := 2, cells := 0, slots := 0, locals := 38 } : Room).cells ({ frames := 2, cells := 0, slots := 0, locals := 38 } : Room).slots) := by
  refine MetFree.of_bodySF (plainFor_of_name pn_0) hisR ?_
  intro p e s m args below meth c s₁ Bd hml0 hP hK
  obtain ⟨rfl, hZ, hh⟩ := hP
  have hx := Bd.exec
  have hby := Bd.bytes
  have hml : c.maxLocals = 7 := hml0
  have hown : s.vm.findClass "com/example/tandemcab/tandemcab/NodeQueue" = some m.cls := findClass_of_methodNamed Bd.named
  have hnm := (name_of_methodNamed Bd.named Bd.method).1
  have X0 : Stand p l e ({ frames := 2, cells := 0, slots := 0, locals := 38 } : Room) s m #[(.ref a1), (.int 0), (.double x1), (.double x2)] below meth c s₁ [] 0 0 := Stand.of_body Bd
  have e0 : s₁.heap = h0 := by rw [← hh, Bd.state]; rfl
  have NF := Fr.nil n0
  have KP : Keep h0 h0 [a1, tn, ts, tm, tp] := Keep.refl h0 _
  refine WP.go ?_
  refine WP.cast (ef_5t31 m a1 x1 x2) ?_
  refine WP.name ?_
  intro G hG
  refine WP.st (T' := s₁) (f' := (mkF m 1 #[.val (.ref a1), .val (.int 0), .val (.double x1), .second, .val (.double x2), .second, .unset] [(.ref a1)])) (fun t k => ?_) ?_
  · refine XS.aloadN X0.here hx rfl (hb hby d5_0) rfl rfl ?_
    exact k
  obtain ⟨T313, X313, e313, st313⟩ := getF X0 hx hZ hown (host := "") (Or.inl (w_17 hw)) Via.refl e0 F_a1_position (g := (mkF m 1 #[.val (.ref a1), .val (.int 0), .val (.double x1), .second, .val (.double x2), .second, .unset] [(.ref a1)])) rfl rfl (hb hby d5_1)
  refine WP.st st313 ?_
  clear st313
  show WP p.tables e below _ T313 (mkF m 4 #[.val (.ref a1), .val (.int 0), .val (.double x1), .second, .val (.double x2), .second, .unset] [(.ref tp)])
  refine WP.st (T' := T313) (f' := (mkF m 5 #[.val (.ref a1), .val (.int 0), .val (.double x1), .second, .val (.double x2), .second, .unset] [(.int 0), (.ref tp)])) (fun t k => ?_) ?_
  · refine XS.iloadN X313.here hx rfl (hb hby d5_4) rfl ?_
    exact k
  obtain ⟨cl314, Ar314, hin314, hat314, -⟩ := V_tp.rd (j := (0 : Int32)) ⟨by decide, by decide⟩
  replace hat314 : cl314.slots[((0 : Int32)).toNatClampNeg]? = some (.int 0) := hat314
  refine WP.st (T' := T313) (f' := (mkF m 8 #[.val (.ref a1), .val (.int 0), .val (.double x1), .second, .val (.double x2), .second, .unset] [(.int ((0 : Int32) - (1 : Int32)))])) (fun t k => ?_) ?_
  · refine X313.iaload hx (j := (0 : Int32)) (v := (.int 0)) (by rw [e313]; exact Ar314.1) (State.isArrayOf_alike hZ.alike Ar314.2.1) Ar314.2.2 hin314 hat314 (g := (mkF m 5 #[.val (.ref a1), .val (.int 0), .val (.double x1), .second, .val (.double x2), .second, .unset] [(.int 0), (.ref tp)])) rfl rfl (hb hby d5_5) _ ?_
    refine XS.iconst X313.here hx rfl (hb hby d5_6) ?_
    refine XS.isub X313.here hx rfl (hb hby d5_7) rfl ?_
    exact k
  rw [show ((0 : Int32) - (1 : Int32)) = (-1 : Int32) from by decide]
  show WP p.tables e below _ T313 (mkF m 8 #[.val (.ref a1), .val (.int 0), .val (.double x1), .second, .val (.double x2), .second, .unset] [(.int (-1))])
  refine WP.st (T' := T313) (f' := (mkF m 22 #[.val (.ref a1), .val (.int 0), .val (.double x1), .second, .val (.double x2), .second, .val (.int (-1))] [(.ref a1), (.ref a1), (.double x2), (.double x1), (.int 0), (.ref a1)])) (fun t k => ?_) ?_
  · refine XS.istore X313.here hx rfl (hb hby d5_8) rfl (l' := #[.val (.ref a1), .val (.int 0), .val (.double x1), .second, .val (.double x2), .second, .val (.int (-1))]) rfl ?_
    refine XS.iload X313.here hx rfl (hb hby d5_10) rfl ?_
    refine XS.ifNo X313.here hx rfl (hb hby d5_12) rfl ((if0 _ _).trans (tlt (by decide : (-1 : Int32) < (0 : Int32))).2.1) ?_
    refine XS.aloadN X313.here hx rfl (hb hby d5_15) rfl rfl ?_
    refine XS.iloadN X313.here hx rfl (hb hby d5_16) rfl ?_
    refine XS.dloadN X313.here hx rfl (hb hby d5_17) rfl ?_
    refine XS.dload X313.here hx rfl (hb hby d5_18) rfl ?_
    refine XS.aloadN X313.here hx rfl (hb hby d5_20) rfl rfl ?_
    show Steps p.tables e below (T313.setTop (mkF m 21 #[.val (.ref a1), .val (.int 0), .val (.double x1), .second, .val (.double x2), .second, .val (.int (-1))] [(.ref a1), (.double x2), (.double x1), (.int 0), (.ref a1)])) t
    refine XS.dup X313.here hx rfl (hb hby d5_21) rfl rfl ?_
    exact k
  obtain ⟨T315, X315, e315, st315⟩ := getF X313 hx hZ hown (host := "") (Or.inl (w_24 hw)) Via.refl e313 F_a1_size (g := (mkF m 22 #[.val (.ref a1), .val (.int 0), .val (.double x1), .second, .val (.double x2), .second, .val (.int (-1))] [(.ref a1), (.ref a1), (.double x2), (.double x1), (.int 0), (.ref a1)])) rfl rfl (hb hby d5_22)
  refine WP.st st315 ?_
  clear st315
  show WP p.tables e below _ T315 (mkF m 25 #[.val (.ref a1), .val (.int 0), .val (.double x1), .second, .val (.double x2), .second, .val (.int (-1))] [(.int 2), (.ref a1), (.double x2), (.double x1), (.int 0), (.ref a1)])
  refine WP.st (T' := T315) (f' := (mkF m 28 #[.val (.ref a1), .val (.int 0), .val (.double x1), .second, .val (.double x2), .second, .val (.int (-1))] [(.int ((2 : Int32) + (1 : Int32))), (.ref a1), (.int 2), (.double x2), (.double x1), (.int 0), (.ref a1)])) (fun t k => ?_) ?_
  · refine XS.dupX1 X315.here hx rfl (hb hby d5_25) rfl rfl rfl ?_
    refine XS.iconst X315.here hx rfl (hb hby d5_26) ?_
    refine XS.iadd X315.here hx rfl (hb hby d5_27) rfl ?_
    exact k
  rw [show ((2 : Int32) + (1 : Int32)) = (3 : Int32) from by decide]
  show WP p.tables e below _ T315 (mkF m 28 #[.val (.ref a1), .val (.int 0), .val (.double x1), .second, .val (.double x2), .second, .val (.int (-1))] [(.int 3), (.ref a1), (.int 2), (.double x2), (.double x1), (.int 0), (.ref a1)])
  obtain ⟨T316, h316, X316, e316, W316, st316⟩ := putF X315 hx hZ hown (host := "") (Or.inl (w_24 hw)) Via.refl e315 F_a1_size E_a1 (Or.inl (w_25 hw)) (w_1 hw) (ty := .int) (by decide) rfl rfl (g := (mkF m 28 #[.val (.ref a1), .val (.int 0), .val (.double x1), .second, .val (.double x2), .second, .val (.int (-1))] [(.int 3), (.ref a1), (.int 2), (.double x2), (.double x1), (.int 0), (.ref a1)])) rfl rfl (hb hby d5_28)
  refine WP.st st316 ?_
  clear st316
  replace E_a1 := E_a1.wr W316
  replace F_a1_nodes := F_a1_nodes.other W316 (Or.inr (sn_16 hw))
  replace F_a1_seconds := F_a1_seconds.other W316 (Or.inr (sn_17 hw))
  replace F_a1_metres := F_a1_metres.other W316 (Or.inr (sn_18 hw))
  replace F_a1_position := F_a1_position.other W316 (Or.inr (sn_19 hw))
  replace F_a1_size := F_a1_size.same W316
  replace V_tn := V_tn.other W316 (Ne.symm ne_a1_tn)
  replace V_ts := V_ts.other W316 (Ne.symm ne_a1_ts)
  replace V_tm := V_tm.other W316 (Ne.symm ne_a1_tm)
  replace V_tp := V_tp.other W316 (Ne.symm ne_a1_tp)
  replace Z0 := Nat.le_trans Z0 (Keep.of_wr W316).1
  replace KP := KP.wr W316 (Or.inl (List.mem_of_getElem? (i := 0) rfl))
  replace NF := Fr.snoc X316 NF g_a1
  clear W316
  show WP p.tables e below _ T316 (mkF m 31 #[.val (.ref a1), .val (.int 0), .val (.double x1), .second, .val (.double x2), .second, .val (.int (-1))] [(.int 2), (.double x2), (.double x1), (.int 0), (.ref a1)])
  obtain ⟨cq317, q317, q317'⟩ := E_a1.cell
  obtain ⟨_, _, ⟨T317, L317, k317, n317⟩, -, X317, ⟨Lc317, hQ317, l317, y317, z317⟩, st317⟩ := X316.privateBack hx (y := (⟨"com/example/tandemcab/tandemcab/NodeQueue", "up", "(IDDI)V"⟩ : MethodName)) hown (mvT hZ (w_37 hw)) (mvT hZ (w_38 hw)) (ownSel (y := (⟨"com/example/tandemcab/tandemcab/NodeQueue", "up", "(IDDI)V"⟩ : MethodName)) (mvT hZ (w_22 hw)) rfl (Cond.privateMethod_at (mvP hZ (w_39 hw) (args := #[]))) (mvT hZ (w_38 hw)) (by decide)) (Cond.privateMethod_at (mvP hZ (w_39 hw) (args := #[]))) (mvT hZ (w_40 hw)) (by decide) (backOf (W := 0) (rm6t32 l Z a0 hw [] a1 x1 x2 tn ts tm tp kn ks km kp nd1 nd2 y1 s1 s2 y2 m1 m2 (.int 0) p1 p2 (3 : Int32) h316 n0 Z0 E_a1 F_a1_nodes F_a1_seconds F_a1_metres F_a1_position F_a1_size V_tn V_ts V_tm V_tp g_a1 g_tn g_ts g_tm g_tp ne_a1_tn ne_a1_ts ne_a1_tm ne_a1_tp ne_tn_ts ne_tn_tm ne_tn_tp ne_ts_tm ne_ts_tp ne_tm_tp hbef) hZ (w_40 hw) (w_2 hw) (by decide) (by decide)) (g := (mkF m 31 #[.val (.ref a1), .val (.int 0), .val (.double x1), .second, .val (.double x2), .second, .val (.int (-1))] [(.int 2), (.double x2), (.double x1), (.int 0), (.ref a1)])) rfl (by rw [hml]; rfl) (Steps.refl _) (a := a1) (by rw [e316]; exact q317) q317' (argsL := [(.int 0), (.double x1), (.double x2), (.int 2)]) (rest := []) (lenOf pd_2 rfl) rfl (by show 2 * 0 + _ ≤ _; exact Nat.le_of_eq rfl) (hb hby d5_31) (fun _ _ => ⟨rfl, e316, (by decide : 0 + 0 ≤ _), (by decide : 0 + 0 ≤ _)⟩)
  dsimp only [Pt.U, Pt.locs, Pt.cells, Pt.slots] at X317 l317 y317 z317 st317 hQ317
  subst l317 y317 z317
  obtain ⟨rfl, Nq317, Kq317, nF317_a1_nodes, nF317_a1_seconds, nF317_a1_metres, nF317_a1_position, nF317_a1_size, nA317_tn, nA317_ts, nA317_tm, nA317_tp⟩ := hQ317
  replace NF := Fr.app NF Nq317
  clear Nq317
  refine WP.tr st317 ?_
  clear st317
  obtain ⟨h317, e317⟩ : ∃ h, T317.heap = h := ⟨_, rfl⟩
  rw [e317] at Kq317 nF317_a1_nodes nF317_a1_seconds nF317_a1_metres nF317_a1_position nF317_a1_size nA317_tn nA317_ts nA317_tm nA317_tp
  replace E_a1 := E_a1.keep Kq317
  clear F_a1_nodes
  clear F_a1_seconds
  clear F_a1_metres
  clear F_a1_position
  clear F_a1_size
  clear V_tn
  clear V_ts
  clear V_tm
  clear V_tp
  replace Z0 := Nat.le_trans Z0 Kq317.1
  replace KP := KP.trans Kq317 (allS (Or.inl (List.mem_of_getElem? (i := 0) rfl)) (allS (Or.inl (List.mem_of_getElem? (i := 1) rfl)) (allS (Or.inl (List.mem_of_getElem? (i := 2) rfl)) (allS (Or.inl (List.mem_of_getElem? (i := 3) rfl)) (allS (Or.inl (List.mem_of_getElem? (i := 4) rfl)) all0)))))
  clear Kq317
  have F_a1_nodes := nF317_a1_nodes
  clear nF317_a1_nodes
  have F_a1_seconds := nF317_a1_seconds
  clear nF317_a1_seconds
  have F_a1_metres := nF317_a1_metres
  clear nF317_a1_metres
  have F_a1_position := nF317_a1_position
  clear nF317_a1_position
  have F_a1_size := nF317_a1_size
  clear nF317_a1_size
  have V_tn := nA317_tn
  clear nA317_tn
  have V_ts := nA317_ts
  clear nA317_ts
  have V_tm := nA317_tm
  clear nA317_tm
  have V_tp := nA317_tp
  clear nA317_tp
  show WP p.tables e below _ T317 (mkF m 34 #[.val (.ref a1), .val (.int 0), .val (.double x1), .second, .val (.double x2), .second, .val (.int (-1))] [])
  refine WP.st (T' := T317) (f' := (mkF m 83 #[.val (.ref a1), .val (.int 0), .val (.double x1), .second, .val (.double x2), .second, .val (.int (-1))] [])) (fun t k => ?_) ?_
  · refine XS.goto X317.here hx rfl (pc0 := 34) (pc' := 83) rfl (hb hby d5_34) (by decide) (by decide) ?_
    exact k
  subst hG
  obtain ⟨fs, hr, hrun, hended, hW, hsame⟩ := X317.leave (v := none) (fun _ => rfl)
  refine WP.fin ⟨_, _, ?_, hrun, hended, _, _, rfl, ?_, ⟨_, rfl⟩, hW, hsame.mono (by decide) (by decide)⟩
  · exact X317.returnOut hx Bd.returns (hb hby d5_83) hr
  · show Q5t31 Z a1 x1 x2 tn ts tm tp kn ks km kp nd1 nd2 y1 s1 s2 y2 m1 m2 p1 p2 h0 n0 _ T317.heap _
    rw [e317]
    exact ⟨rfl, NF, KP, F_a1_nodes, F_a1_seconds, F_a1_metres, F_a1_position, F_a1_size, V_tn, V_ts, V_tm, V_tp⟩
theorem ef_3t34 (m : MethodId) (z0 : Addr) : entryFrame m #[(.ref z0)] 2 = mkF m 0 #[.val (.ref z0), .unset] [] := by
  all_goals first | (simp [entryFrame, mkF, argsToLocals, Value.category]; done) | rfl
def Q3t34 (Z : State) (a1 : Addr) (tn : Addr) (ts : Addr) (tm : Addr) (tp : Addr) (kn : ClassId) (ks : ClassId) (km : ClassId) (kp : ClassId) (s0 : Value) (s1 : Value) (s2 : Value) (m0 : Value) (m1 : Value) (m2 : Value) (p0 : Value) (p1 : Value) (p2 : Value) (h0 : Heap) (n0 : Nat) (v : Option Value) (h : Heap) (L : List Loc) : Prop := v = none ∧ Fr n0 L ∧ Keep h0 h [a1, tn, ts, tm, tp] ∧ Fld Z h a1 "com/example/tandemcab/tandemcab/NodeQueue" "nodes" "[I" (.ref tn) ∧ Fld Z h a1 "com/example/tandemcab/tandemcab/NodeQueue" "seconds" "[D" (.ref ts) ∧ Fld Z h a1 "com/example/tandemcab/tandemcab/NodeQueue" "metres" "[D" (.ref tm) ∧ Fld Z h a1 "com/example/tandemcab/tandemcab/NodeQueue" "position" "[I" (.ref tp) ∧ Fld Z h a1 "com/example/tandemcab/tandemcab/NodeQueue" "size" "I" (.int 0) ∧ (Arv Z h tn kn .int (3 : Int32) [(.int 2), (.int 1), (.int 0)] (.int 0)) ∧ (Arv Z h ts ks .double (3 : Int32) [s0, s1, s2] (.double 0)) ∧ (Arv Z h tm km .double (3 : Int32) [m0, m1, m2] (.double 0)) ∧ (Arv Z h tp kp .int (3 : Int32) [(.int 0), (.int 0), (.int 0)] (.int 0))
set_option maxRecDepth 65536 in
set_option maxHeartbeats 40000000 in
theorem rm3t34 (l : Launch) (Z : State) (a0 : Array Value) (hw : ∀ d ∈ tables_1, d.before a0 Z = true) (wsC : List Jvm.Cond) (a1 : Addr) (tn : Addr) (ts : Addr) (tm : Addr) (tp : Addr) (kn : ClassId) (ks : ClassId) (km : ClassId) (kp : ClassId) (s0 : Value) (s1 : Value) (s2 : Value) (m0 : Value) (m1 : Value) (m2 : Value) (p0 : Value) (p1 : Value) (p2 : Value) (h0 : Heap) (n0 : Nat) (Z0 : n0 ≤ h0.size) (E_a1 : Exa Z h0 a1 "com/example/tandemcab/tandemcab/NodeQueue") (F_a1_nodes : Fld Z h0 a1 "com/example/tandemcab/tandemcab/NodeQueue" "nodes" "[I" (.ref tn)) (F_a1_seconds : Fld Z h0 a1 "com/example/tandemcab/tandemcab/NodeQueue" "seconds" "[D" (.ref ts)) (F_a1_metres : Fld Z h0 a1 "com/example/tandemcab/tandemcab/NodeQueue" "metres" "[D" (.ref tm)) (F_a1_position : Fld Z h0 a1 "com/example/tandemcab/tandemcab/NodeQueue" "position" "[I" (.ref tp)) (F_a1_size : Fld Z h0 a1 "com/example/tandemcab/tandemcab/NodeQueue" "size" "I" (.int 3)) (V_tn : Arv Z h0 tn kn .int (3 : Int32) [(.int 2), (.int 1), (.int 0)] (.int 0)) (V_ts : Arv Z h0 ts ks .double (3 : Int32) [s0, s1, s2] (.double 0)) (V_tm : Arv Z h0 tm km .double (3 : Int32) [m0, m1, m2] (.double 0)) (V_tp : Arv Z h0 tp kp .int (3 : Int32) [p0, p1, p2] (.int 0)) (g_a1 : n0 ≤ a1) (g_tn : n0 ≤ tn) (g_ts : n0 ≤ ts) (g_tm : n0 ≤ tm) (g_tp : n0 ≤ tp) (ne_a1_tn : a1 ≠ tn) (ne_a1_ts : a1 ≠ ts) (ne_a1_tm : a1 ≠ tm) (ne_a1_tp : a1 ≠ tp) (ne_tn_ts : tn ≠ ts) (ne_tn_tm : tn ≠ tm) (ne_tn_tp : tn ≠ tp) (ne_ts_tm : ts ≠ tm) (ne_ts_tp : ts ≠ tp) (ne_tm_tp : tm ≠ tp) :
    MetFree l (⟨"com/example/tandemcab/tandemcab/NodeQueue", "clear", "()V"⟩ : MethodName) (head1 (Jvm.Cond.code (⟨"com/example/tandemcab/tandemcab/NodeQueue", "clear", "()V"⟩ : MethodName) prog_49_method_3_code 2 none :: wsC) ({ frames := 0, cells := 0, slots := 0, locals := 0 } : Room)) (fun a U => a = #[(.ref a1)] ∧ Z.Warmed39 U.vm ∧ U.heap = h0) (fun _ _ _ _ _ => True) (fun _ U o U' => ∃ v L, o = .returned v ∧ Q3t34 Z a1 tn ts tm tp kn ks km kp s0 s1 s2 m0 m1 m2 p0 p1 p2 h0 n0 v U'.heap L ∧ FrameEnd U o U' L ({ frames := 0, cells := 0, slots := 0, locals := 0 } : Room).cells ({ frames := 0, cells := 0, slots := 0, locals := 0 } : Room).slots) := by
  refine MetFree.of_bodySF (plainFor_of_name pn_0) hisR ?_
  intro p e s m args below meth c s₁ Bd hml0 hP hK
  obtain ⟨rfl, hZ, hh⟩ := hP
  have hx := Bd.exec
  have hby := Bd.bytes
  have hml : c.maxLocals = 2 := hml0
  have hown : s.vm.findClass "com/example/tandemcab/tandemcab/NodeQueue" = some m.cls := findClass_of_methodNamed Bd.named
  have hnm := (name_of_methodNamed Bd.named Bd.method).1
  have X0 : Stand p l e ({ frames := 0, cells := 0, slots := 0, locals := 0 } : Room) s m #[(.ref a1)] below meth c s₁ [] 0 0 := Stand.of_body Bd
  have e0 : s₁.heap = h0 := by rw [← hh, Bd.state]; rfl
  have NF := Fr.nil n0
  have KP : Keep h0 h0 [a1, tn, ts, tm, tp] := Keep.refl h0 _
  refine WP.go ?_
  refine WP.cast (ef_3t34 m a1) ?_
  refine WP.name ?_
  intro G hG
  refine WP.st (T' := s₁) (f' := (mkF m 4 #[.val (.ref a1), .val (.int 0)] [(.ref a1), (.int 0)])) (fun t k => ?_) ?_
  · refine XS.iconst X0.here hx rfl (hb hby d3_0) ?_
    refine XS.istoreN X0.here hx rfl (hb hby d3_1) rfl (l' := #[.val (.ref a1), .val (.int 0)]) rfl ?_
    refine XS.iloadN X0.here hx rfl (hb hby d3_2) rfl ?_
    refine XS.aloadN X0.here hx rfl (hb hby d3_3) rfl rfl ?_
    exact k
  obtain ⟨T319, X319, e319, st319⟩ := getF X0 hx hZ hown (host := "") (Or.inl (w_24 hw)) Via.refl e0 F_a1_size (g := (mkF m 4 #[.val (.ref a1), .val (.int 0)] [(.ref a1), (.int 0)])) rfl rfl (hb hby d3_4)
  refine WP.st st319 ?_
  clear st319
  show WP p.tables e below _ T319 (mkF m 7 #[.val (.ref a1), .val (.int 0)] [(.int 3), (.int 0)])
  refine WP.st (T' := T319) (f' := (mkF m 11 #[.val (.ref a1), .val (.int 0)] [(.ref a1)])) (fun t k => ?_) ?_
  · refine XS.icmpNo X319.here hx rfl (hb hby d3_7) rfl (tlt (by decide : (0 : Int32) < (3 : Int32))).2.1 ?_
    refine XS.aloadN X319.here hx rfl (hb hby d3_10) rfl rfl ?_
    exact k
  obtain ⟨T320, X320, e320, st320⟩ := getF X319 hx hZ hown (host := "") (Or.inl (w_17 hw)) Via.refl e319 F_a1_position (g := (mkF m 11 #[.val (.ref a1), .val (.int 0)] [(.ref a1)])) rfl rfl (hb hby d3_11)
  refine WP.st st320 ?_
  clear st320
  show WP p.tables e below _ T320 (mkF m 14 #[.val (.ref a1), .val (.int 0)] [(.ref tp)])
  refine WP.st (T' := T320) (f' := (mkF m 15 #[.val (.ref a1), .val (.int 0)] [(.ref a1), (.ref tp)])) (fun t k => ?_) ?_
  · refine XS.aloadN X320.here hx rfl (hb hby d3_14) rfl rfl ?_
    exact k
  obtain ⟨T321, X321, e321, st321⟩ := getF X320 hx hZ hown (host := "") (Or.inl (w_10 hw)) Via.refl e320 F_a1_nodes (g := (mkF m 15 #[.val (.ref a1), .val (.int 0)] [(.ref a1), (.ref tp)])) rfl rfl (hb hby d3_15)
  refine WP.st st321 ?_
  clear st321
  show WP p.tables e below _ T321 (mkF m 18 #[.val (.ref a1), .val (.int 0)] [(.ref tn), (.ref tp)])
  refine WP.st (T' := T321) (f' := (mkF m 19 #[.val (.ref a1), .val (.int 0)] [(.int 0), (.ref tn), (.ref tp)])) (fun t k => ?_) ?_
  · refine XS.iloadN X321.here hx rfl (hb hby d3_18) rfl ?_
    exact k
  obtain ⟨cl322, Ar322, hin322, hat322, -⟩ := V_tn.rd (j := (0 : Int32)) ⟨by decide, by decide⟩
  replace hat322 : cl322.slots[((0 : Int32)).toNatClampNeg]? = some (.int 2) := hat322
  refine WP.st (T' := T321) (f' := (mkF m 21 #[.val (.ref a1), .val (.int 0)] [(.int 0), (.int 2), (.ref tp)])) (fun t k => ?_) ?_
  · refine X321.iaload hx (j := (0 : Int32)) (v := (.int 2)) (by rw [e321]; exact Ar322.1) (State.isArrayOf_alike hZ.alike Ar322.2.1) Ar322.2.2 hin322 hat322 (g := (mkF m 19 #[.val (.ref a1), .val (.int 0)] [(.int 0), (.ref tn), (.ref tp)])) rfl rfl (hb hby d3_19) _ ?_
    refine XS.iconst X321.here hx rfl (hb hby d3_20) ?_
    exact k
  obtain ⟨cl323, Ar323, q323, S323, N323, H323, G323⟩ := V_tp
  have hin323 : ¬ ((2 : Int32) < 0 ∨ cl323.slots.size ≤ ((2 : Int32)).toNatClampNeg) := inb_of S323 ⟨by decide, by decide⟩
  obtain ⟨T324, h324, X324, e324, W324, st324⟩ := stI X321 hx hZ e321 Ar323 (j := (2 : Int32)) hin323 (g := (mkF m 21 #[.val (.ref a1), .val (.int 0)] [(.int 0), (.int 2), (.ref tp)])) rfl rfl (hb hby d3_21)
  refine WP.st st324 ?_
  clear st324
  have Vn : Arv Z h324 tp kp .int (3 : Int32) [p0, p1, (.int 0)] (.int 0) := Arv.set Ar323 q323 S323 N323 H323 G323 rfl W324 2 rfl (Nat.le_of_ble_eq_true rfl)
  replace E_a1 := E_a1.wr W324
  replace F_a1_nodes := F_a1_nodes.other W324 (Or.inl ne_a1_tp)
  replace F_a1_seconds := F_a1_seconds.other W324 (Or.inl ne_a1_tp)
  replace F_a1_metres := F_a1_metres.other W324 (Or.inl ne_a1_tp)
  replace F_a1_position := F_a1_position.other W324 (Or.inl ne_a1_tp)
  replace F_a1_size := F_a1_size.other W324 (Or.inl ne_a1_tp)
  replace V_tn := V_tn.other W324 ne_tn_tp
  replace V_ts := V_ts.other W324 ne_ts_tp
  replace V_tm := V_tm.other W324 ne_tm_tp
  replace Z0 := Nat.le_trans Z0 (Keep.of_wr W324).1
  replace KP := KP.wr W324 (Or.inl (List.mem_of_getElem? (i := 4) rfl))
  replace V_tp := Vn
  replace NF := Fr.snoc X324 NF g_tp
  clear W324 hin323 q323 S323 N323 H323 G323 Ar323
  show WP p.tables e below _ T324 (mkF m 22 #[.val (.ref a1), .val (.int 0)] [])
  refine WP.st (T' := T324) (f' := (mkF m 25 #[.val (.ref a1), .val (.int ((0 : Int32) + (1 : Int32)))] [])) (fun t k => ?_) ?_
  · refine XS.iinc X324.here hx rfl (hb hby d3_22) rfl (l' := #[.val (.ref a1), .val (.int ((0 : Int32) + (1 : Int32)))]) rfl ?_
    exact k
  rw [show ((0 : Int32) + (1 : Int32)) = (1 : Int32) from by decide]
  show WP p.tables e below _ T324 (mkF m 25 #[.val (.ref a1), .val (.int 1)] [])
  refine WP.st (T' := T324) (f' := (mkF m 4 #[.val (.ref a1), .val (.int 1)] [(.ref a1), (.int 1)])) (fun t k => ?_) ?_
  · refine XS.goto X324.here hx rfl (pc0 := 25) (pc' := 2) rfl (hb hby d3_25) (by decide) (by decide) ?_
    refine XS.iloadN X324.here hx rfl (hb hby d3_2) rfl ?_
    refine XS.aloadN X324.here hx rfl (hb hby d3_3) rfl rfl ?_
    exact k
  obtain ⟨T325, X325, e325, st325⟩ := getF X324 hx hZ hown (host := "") (Or.inl (w_24 hw)) Via.refl e324 F_a1_size (g := (mkF m 4 #[.val (.ref a1), .val (.int 1)] [(.ref a1), (.int 1)])) rfl rfl (hb hby d3_4)
  refine WP.st st325 ?_
  clear st325
  show WP p.tables e below _ T325 (mkF m 7 #[.val (.ref a1), .val (.int 1)] [(.int 3), (.int 1)])
  refine WP.st (T' := T325) (f' := (mkF m 11 #[.val (.ref a1), .val (.int 1)] [(.ref a1)])) (fun t k => ?_) ?_
  · refine XS.icmpNo X325.here hx rfl (hb hby d3_7) rfl (tlt (by decide : (1 : Int32) < (3 : Int32))).2.1 ?_
    refine XS.aloadN X325.here hx rfl (hb hby d3_10) rfl rfl ?_
    exact k
  obtain ⟨T326, X326, e326, st326⟩ := getF X325 hx hZ hown (host := "") (Or.inl (w_17 hw)) Via.refl e325 F_a1_position (g := (mkF m 11 #[.val (.ref a1), .val (.int 1)] [(.ref a1)])) rfl rfl (hb hby d3_11)
  refine WP.st st326 ?_
  clear st326
  show WP p.tables e below _ T326 (mkF m 14 #[.val (.ref a1), .val (.int 1)] [(.ref tp)])
  refine WP.st (T' := T326) (f' := (mkF m 15 #[.val (.ref a1), .val (.int 1)] [(.ref a1), (.ref tp)])) (fun t k => ?_) ?_
  · refine XS.aloadN X326.here hx rfl (hb hby d3_14) rfl rfl ?_
    exact k
  obtain ⟨T327, X327, e327, st327⟩ := getF X326 hx hZ hown (host := "") (Or.inl (w_10 hw)) Via.refl e326 F_a1_nodes (g := (mkF m 15 #[.val (.ref a1), .val (.int 1)] [(.ref a1), (.ref tp)])) rfl rfl (hb hby d3_15)
  refine WP.st st327 ?_
  clear st327
  show WP p.tables e below _ T327 (mkF m 18 #[.val (.ref a1), .val (.int 1)] [(.ref tn), (.ref tp)])
  refine WP.st (T' := T327) (f' := (mkF m 19 #[.val (.ref a1), .val (.int 1)] [(.int 1), (.ref tn), (.ref tp)])) (fun t k => ?_) ?_
  · refine XS.iloadN X327.here hx rfl (hb hby d3_18) rfl ?_
    exact k
  obtain ⟨cl328, Ar328, hin328, hat328, -⟩ := V_tn.rd (j := (1 : Int32)) ⟨by decide, by decide⟩
  replace hat328 : cl328.slots[((1 : Int32)).toNatClampNeg]? = some (.int 1) := hat328
  refine WP.st (T' := T327) (f' := (mkF m 21 #[.val (.ref a1), .val (.int 1)] [(.int 0), (.int 1), (.ref tp)])) (fun t k => ?_) ?_
  · refine X327.iaload hx (j := (1 : Int32)) (v := (.int 1)) (by rw [e327]; exact Ar328.1) (State.isArrayOf_alike hZ.alike Ar328.2.1) Ar328.2.2 hin328 hat328 (g := (mkF m 19 #[.val (.ref a1), .val (.int 1)] [(.int 1), (.ref tn), (.ref tp)])) rfl rfl (hb hby d3_19) _ ?_
    refine XS.iconst X327.here hx rfl (hb hby d3_20) ?_
    exact k
  obtain ⟨cl329, Ar329, q329, S329, N329, H329, G329⟩ := V_tp
  have hin329 : ¬ ((1 : Int32) < 0 ∨ cl329.slots.size ≤ ((1 : Int32)).toNatClampNeg) := inb_of S329 ⟨by decide, by decide⟩
  obtain ⟨T330, h330, X330, e330, W330, st330⟩ := stI X327 hx hZ e327 Ar329 (j := (1 : Int32)) hin329 (g := (mkF m 21 #[.val (.ref a1), .val (.int 1)] [(.int 0), (.int 1), (.ref tp)])) rfl rfl (hb hby d3_21)
  refine WP.st st330 ?_
  clear st330
  have Vn : Arv Z h330 tp kp .int (3 : Int32) [p0, (.int 0), (.int 0)] (.int 0) := Arv.set Ar329 q329 S329 N329 H329 G329 rfl W330 1 rfl (Nat.le_of_ble_eq_true rfl)
  replace E_a1 := E_a1.wr W330
  replace F_a1_nodes := F_a1_nodes.other W330 (Or.inl ne_a1_tp)
  replace F_a1_seconds := F_a1_seconds.other W330 (Or.inl ne_a1_tp)
  replace F_a1_metres := F_a1_metres.other W330 (Or.inl ne_a1_tp)
  replace F_a1_position := F_a1_position.other W330 (Or.inl ne_a1_tp)
  replace F_a1_size := F_a1_size.other W330 (Or.inl ne_a1_tp)
  replace V_tn := V_tn.other W330 ne_tn_tp
  replace V_ts := V_ts.other W330 ne_ts_tp
  replace V_tm := V_tm.other W330 ne_tm_tp
  replace Z0 := Nat.le_trans Z0 (Keep.of_wr W330).1
  replace KP := KP.wr W330 (Or.inl (List.mem_of_getElem? (i := 4) rfl))
  replace V_tp := Vn
  replace NF := Fr.snoc X330 NF g_tp
  clear W330 hin329 q329 S329 N329 H329 G329 Ar329
  show WP p.tables e below _ T330 (mkF m 22 #[.val (.ref a1), .val (.int 1)] [])
  refine WP.st (T' := T330) (f' := (mkF m 25 #[.val (.ref a1), .val (.int ((1 : Int32) + (1 : Int32)))] [])) (fun t k => ?_) ?_
  · refine XS.iinc X330.here hx rfl (hb hby d3_22) rfl (l' := #[.val (.ref a1), .val (.int ((1 : Int32) + (1 : Int32)))]) rfl ?_
    exact k
  rw [show ((1 : Int32) + (1 : Int32)) = (2 : Int32) from by decide]
  show WP p.tables e below _ T330 (mkF m 25 #[.val (.ref a1), .val (.int 2)] [])
  refine WP.st (T' := T330) (f' := (mkF m 4 #[.val (.ref a1), .val (.int 2)] [(.ref a1), (.int 2)])) (fun t k => ?_) ?_
  · refine XS.goto X330.here hx rfl (pc0 := 25) (pc' := 2) rfl (hb hby d3_25) (by decide) (by decide) ?_
    refine XS.iloadN X330.here hx rfl (hb hby d3_2) rfl ?_
    refine XS.aloadN X330.here hx rfl (hb hby d3_3) rfl rfl ?_
    exact k
  obtain ⟨T331, X331, e331, st331⟩ := getF X330 hx hZ hown (host := "") (Or.inl (w_24 hw)) Via.refl e330 F_a1_size (g := (mkF m 4 #[.val (.ref a1), .val (.int 2)] [(.ref a1), (.int 2)])) rfl rfl (hb hby d3_4)
  refine WP.st st331 ?_
  clear st331
  show WP p.tables e below _ T331 (mkF m 7 #[.val (.ref a1), .val (.int 2)] [(.int 3), (.int 2)])
  refine WP.st (T' := T331) (f' := (mkF m 11 #[.val (.ref a1), .val (.int 2)] [(.ref a1)])) (fun t k => ?_) ?_
  · refine XS.icmpNo X331.here hx rfl (hb hby d3_7) rfl (tlt (by decide : (2 : Int32) < (3 : Int32))).2.1 ?_
    refine XS.aloadN X331.here hx rfl (hb hby d3_10) rfl rfl ?_
    exact k
  obtain ⟨T332, X332, e332, st332⟩ := getF X331 hx hZ hown (host := "") (Or.inl (w_17 hw)) Via.refl e331 F_a1_position (g := (mkF m 11 #[.val (.ref a1), .val (.int 2)] [(.ref a1)])) rfl rfl (hb hby d3_11)
  refine WP.st st332 ?_
  clear st332
  show WP p.tables e below _ T332 (mkF m 14 #[.val (.ref a1), .val (.int 2)] [(.ref tp)])
  refine WP.st (T' := T332) (f' := (mkF m 15 #[.val (.ref a1), .val (.int 2)] [(.ref a1), (.ref tp)])) (fun t k => ?_) ?_
  · refine XS.aloadN X332.here hx rfl (hb hby d3_14) rfl rfl ?_
    exact k
  obtain ⟨T333, X333, e333, st333⟩ := getF X332 hx hZ hown (host := "") (Or.inl (w_10 hw)) Via.refl e332 F_a1_nodes (g := (mkF m 15 #[.val (.ref a1), .val (.int 2)] [(.ref a1), (.ref tp)])) rfl rfl (hb hby d3_15)
  refine WP.st st333 ?_
  clear st333
  show WP p.tables e below _ T333 (mkF m 18 #[.val (.ref a1), .val (.int 2)] [(.ref tn), (.ref tp)])
  refine WP.st (T' := T333) (f' := (mkF m 19 #[.val (.ref a1), .val (.int 2)] [(.int 2), (.ref tn), (.ref tp)])) (fun t k => ?_) ?_
  · refine XS.iloadN X333.here hx rfl (hb hby d3_18) rfl ?_
    exact k
  obtain ⟨cl334, Ar334, hin334, hat334, -⟩ := V_tn.rd (j := (2 : Int32)) ⟨by decide, by decide⟩
  replace hat334 : cl334.slots[((2 : Int32)).toNatClampNeg]? = some (.int 0) := hat334
  refine WP.st (T' := T333) (f' := (mkF m 21 #[.val (.ref a1), .val (.int 2)] [(.int 0), (.int 0), (.ref tp)])) (fun t k => ?_) ?_
  · refine X333.iaload hx (j := (2 : Int32)) (v := (.int 0)) (by rw [e333]; exact Ar334.1) (State.isArrayOf_alike hZ.alike Ar334.2.1) Ar334.2.2 hin334 hat334 (g := (mkF m 19 #[.val (.ref a1), .val (.int 2)] [(.int 2), (.ref tn), (.ref tp)])) rfl rfl (hb hby d3_19) _ ?_
    refine XS.iconst X333.here hx rfl (hb hby d3_20) ?_
    exact k
  obtain ⟨cl335, Ar335, q335, S335, N335, H335, G335⟩ := V_tp
  have hin335 : ¬ ((0 : Int32) < 0 ∨ cl335.slots.size ≤ ((0 : Int32)).toNatClampNeg) := inb_of S335 ⟨by decide, by decide⟩
  obtain ⟨T336, h336, X336, e336, W336, st336⟩ := stI X333 hx hZ e333 Ar335 (j := (0 : Int32)) hin335 (g := (mkF m 21 #[.val (.ref a1), .val (.int 2)] [(.int 0), (.int 0), (.ref tp)])) rfl rfl (hb hby d3_21)
  refine WP.st st336 ?_
  clear st336
  have Vn : Arv Z h336 tp kp .int (3 : Int32) [(.int 0), (.int 0), (.int 0)] (.int 0) := Arv.set Ar335 q335 S335 N335 H335 G335 rfl W336 0 rfl (Nat.le_of_ble_eq_true rfl)
  replace E_a1 := E_a1.wr W336
  replace F_a1_nodes := F_a1_nodes.other W336 (Or.inl ne_a1_tp)
  replace F_a1_seconds := F_a1_seconds.other W336 (Or.inl ne_a1_tp)
  replace F_a1_metres := F_a1_metres.other W336 (Or.inl ne_a1_tp)
  replace F_a1_position := F_a1_position.other W336 (Or.inl ne_a1_tp)
  replace F_a1_size := F_a1_size.other W336 (Or.inl ne_a1_tp)
  replace V_tn := V_tn.other W336 ne_tn_tp
  replace V_ts := V_ts.other W336 ne_ts_tp
  replace V_tm := V_tm.other W336 ne_tm_tp
  replace Z0 := Nat.le_trans Z0 (Keep.of_wr W336).1
  replace KP := KP.wr W336 (Or.inl (List.mem_of_getElem? (i := 4) rfl))
  replace V_tp := Vn
  replace NF := Fr.snoc X336 NF g_tp
  clear W336 hin335 q335 S335 N335 H335 G335 Ar335
  show WP p.tables e below _ T336 (mkF m 22 #[.val (.ref a1), .val (.int 2)] [])
  refine WP.st (T' := T336) (f' := (mkF m 25 #[.val (.ref a1), .val (.int ((2 : Int32) + (1 : Int32)))] [])) (fun t k => ?_) ?_
  · refine XS.iinc X336.here hx rfl (hb hby d3_22) rfl (l' := #[.val (.ref a1), .val (.int ((2 : Int32) + (1 : Int32)))]) rfl ?_
    exact k
  rw [show ((2 : Int32) + (1 : Int32)) = (3 : Int32) from by decide]
  show WP p.tables e below _ T336 (mkF m 25 #[.val (.ref a1), .val (.int 3)] [])
  refine WP.st (T' := T336) (f' := (mkF m 4 #[.val (.ref a1), .val (.int 3)] [(.ref a1), (.int 3)])) (fun t k => ?_) ?_
  · refine XS.goto X336.here hx rfl (pc0 := 25) (pc' := 2) rfl (hb hby d3_25) (by decide) (by decide) ?_
    refine XS.iloadN X336.here hx rfl (hb hby d3_2) rfl ?_
    refine XS.aloadN X336.here hx rfl (hb hby d3_3) rfl rfl ?_
    exact k
  obtain ⟨T337, X337, e337, st337⟩ := getF X336 hx hZ hown (host := "") (Or.inl (w_24 hw)) Via.refl e336 F_a1_size (g := (mkF m 4 #[.val (.ref a1), .val (.int 3)] [(.ref a1), (.int 3)])) rfl rfl (hb hby d3_4)
  refine WP.st st337 ?_
  clear st337
  show WP p.tables e below _ T337 (mkF m 7 #[.val (.ref a1), .val (.int 3)] [(.int 3), (.int 3)])
  refine WP.st (T' := T337) (f' := (mkF m 30 #[.val (.ref a1), .val (.int 3)] [(.int 0), (.ref a1)])) (fun t k => ?_) ?_
  · refine XS.icmpYes X337.here hx rfl (pc0 := 7) (pc' := 28) rfl (hb hby d3_7) rfl (flt (by decide : ¬ ((3 : Int32) < (3 : Int32)))).2.1 (by decide) (by decide) ?_
    refine XS.aloadN X337.here hx rfl (hb hby d3_28) rfl rfl ?_
    refine XS.iconst X337.here hx rfl (hb hby d3_29) ?_
    exact k
  obtain ⟨T338, h338, X338, e338, W338, st338⟩ := putF X337 hx hZ hown (host := "") (Or.inl (w_24 hw)) Via.refl e337 F_a1_size E_a1 (Or.inl (w_25 hw)) (w_1 hw) (ty := .int) (by decide) rfl rfl (g := (mkF m 30 #[.val (.ref a1), .val (.int 3)] [(.int 0), (.ref a1)])) rfl rfl (hb hby d3_30)
  refine WP.st st338 ?_
  clear st338
  replace E_a1 := E_a1.wr W338
  replace F_a1_nodes := F_a1_nodes.other W338 (Or.inr (sn_16 hw))
  replace F_a1_seconds := F_a1_seconds.other W338 (Or.inr (sn_17 hw))
  replace F_a1_metres := F_a1_metres.other W338 (Or.inr (sn_18 hw))
  replace F_a1_position := F_a1_position.other W338 (Or.inr (sn_19 hw))
  replace F_a1_size := F_a1_size.same W338
  replace V_tn := V_tn.other W338 (Ne.symm ne_a1_tn)
  replace V_ts := V_ts.other W338 (Ne.symm ne_a1_ts)
  replace V_tm := V_tm.other W338 (Ne.symm ne_a1_tm)
  replace V_tp := V_tp.other W338 (Ne.symm ne_a1_tp)
  replace Z0 := Nat.le_trans Z0 (Keep.of_wr W338).1
  replace KP := KP.wr W338 (Or.inl (List.mem_of_getElem? (i := 0) rfl))
  replace NF := Fr.snoc X338 NF g_a1
  clear W338
  show WP p.tables e below _ T338 (mkF m 33 #[.val (.ref a1), .val (.int 3)] [])
  subst hG
  obtain ⟨fs, hr, hrun, hended, hW, hsame⟩ := X338.leave (v := none) (fun _ => rfl)
  refine WP.fin ⟨_, _, ?_, hrun, hended, _, _, rfl, ?_, ⟨_, rfl⟩, hW, hsame.mono (by decide) (by decide)⟩
  · exact X338.returnOut hx Bd.returns (hb hby d3_33) hr
  · show Q3t34 Z a1 tn ts tm tp kn ks km kp s0 s1 s2 m0 m1 m2 p0 p1 p2 h0 n0 _ T338.heap _
    rw [e338]
    exact ⟨rfl, NF, KP, F_a1_nodes, F_a1_seconds, F_a1_metres, F_a1_position, F_a1_size, V_tn, V_ts, V_tm, V_tp⟩
theorem ef_7t38 (m : MethodId) (z0 : Addr) (z2 : UInt64) (z3 : UInt64) : entryFrame m #[(.ref z0), (.int 2), (.double z2), (.double z3), (.int 2)] 7 = mkF m 0 #[.val (.ref z0), .val (.int 2), .val (.double z2), .second, .val (.double z3), .second, .val (.int 2)] [] := by
  all_goals first | (simp [entryFrame, mkF, argsToLocals, Value.category]; done) | rfl
def Q7t38 (Z : State) (a1 : Addr) (x1 : UInt64) (x2 : UInt64) (tn : Addr) (ts : Addr) (tm : Addr) (tp : Addr) (kn : ClassId) (ks : ClassId) (km : ClassId) (kp : ClassId) (nd0 : Value) (nd1 : Value) (nd2 : Value) (s0 : Value) (s1 : Value) (s2 : Value) (m0 : Value) (m1 : Value) (m2 : Value) (p0 : Value) (p1 : Value) (p2 : Value) (u_size : Int32) (h0 : Heap) (n0 : Nat) (v : Option Value) (h : Heap) (L : List Loc) : Prop := v = none ∧ Fr n0 L ∧ Keep h0 h [a1, tn, ts, tm, tp] ∧ Fld Z h a1 "com/example/tandemcab/tandemcab/NodeQueue" "nodes" "[I" (.ref tn) ∧ Fld Z h a1 "com/example/tandemcab/tandemcab/NodeQueue" "seconds" "[D" (.ref ts) ∧ Fld Z h a1 "com/example/tandemcab/tandemcab/NodeQueue" "metres" "[D" (.ref tm) ∧ Fld Z h a1 "com/example/tandemcab/tandemcab/NodeQueue" "position" "[I" (.ref tp) ∧ Fld Z h a1 "com/example/tandemcab/tandemcab/NodeQueue" "size" "I" (.int u_size) ∧ (Arv Z h tn kn .int (3 : Int32) [nd0, nd1, (.int 2)] (.int 0)) ∧ (Arv Z h ts ks .double (3 : Int32) [s0, s1, (.double x1)] (.double 0)) ∧ (Arv Z h tm km .double (3 : Int32) [m0, m1, (.double x2)] (.double 0)) ∧ (Arv Z h tp kp .int (3 : Int32) [p0, p1, (.int 3)] (.int 0))
set_option maxRecDepth 65536 in
set_option maxHeartbeats 40000000 in
theorem rm7t38 (l : Launch) (Z : State) (a0 : Array Value) (hw : ∀ d ∈ tables_1, d.before a0 Z = true) (wsC : List Jvm.Cond) (a1 : Addr) (x1 : UInt64) (x2 : UInt64) (tn : Addr) (ts : Addr) (tm : Addr) (tp : Addr) (kn : ClassId) (ks : ClassId) (km : ClassId) (kp : ClassId) (nd0 : Value) (nd1 : Value) (nd2 : Value) (s0 : Value) (s1 : Value) (s2 : Value) (m0 : Value) (m1 : Value) (m2 : Value) (p0 : Value) (p1 : Value) (p2 : Value) (u_size : Int32) (h0 : Heap) (n0 : Nat) (Z0 : n0 ≤ h0.size) (E_a1 : Exa Z h0 a1 "com/example/tandemcab/tandemcab/NodeQueue") (F_a1_nodes : Fld Z h0 a1 "com/example/tandemcab/tandemcab/NodeQueue" "nodes" "[I" (.ref tn)) (F_a1_seconds : Fld Z h0 a1 "com/example/tandemcab/tandemcab/NodeQueue" "seconds" "[D" (.ref ts)) (F_a1_metres : Fld Z h0 a1 "com/example/tandemcab/tandemcab/NodeQueue" "metres" "[D" (.ref tm)) (F_a1_position : Fld Z h0 a1 "com/example/tandemcab/tandemcab/NodeQueue" "position" "[I" (.ref tp)) (F_a1_size : Fld Z h0 a1 "com/example/tandemcab/tandemcab/NodeQueue" "size" "I" (.int u_size)) (V_tn : Arv Z h0 tn kn .int (3 : Int32) [nd0, nd1, nd2] (.int 0)) (V_ts : Arv Z h0 ts ks .double (3 : Int32) [s0, s1, s2] (.double 0)) (V_tm : Arv Z h0 tm km .double (3 : Int32) [m0, m1, m2] (.double 0)) (V_tp : Arv Z h0 tp kp .int (3 : Int32) [p0, p1, p2] (.int 0)) (g_a1 : n0 ≤ a1) (g_tn : n0 ≤ tn) (g_ts : n0 ≤ ts) (g_tm : n0 ≤ tm) (g_tp : n0 ≤ tp) (ne_a1_tn : a1 ≠ tn) (ne_a1_ts : a1 ≠ ts) (ne_a1_tm : a1 ≠ tm) (ne_a1_tp : a1 ≠ tp) (ne_tn_ts : tn ≠ ts) (ne_tn_tm : tn ≠ tm) (ne_tn_tp : tn ≠ tp) (ne_ts_tm : ts ≠ tm) (ne_ts_tp : ts ≠ tp) (ne_tm_tp : tm ≠ tp) :
    MetFree l (⟨"com/example/tandemcab/tandemcab/NodeQueue", "place", "(IDDI)V"⟩ : MethodName) (head1 (Jvm.Cond.code (⟨"com/example/tandemcab/tandemcab/NodeQueue", "place", "(IDDI)V"⟩ : MethodName) prog_49_method_10_code 7 none :: wsC) ({ frames := 0, cells := 0, slots := 0, locals := 0 } : Room)) (fun a U => a = #[(.ref a1), (.int 2), (.double x1), (.double x2), (.int 2)] ∧ Z.Warmed39 U.vm ∧ U.heap = h0) (fun _ _ _ _ _ => True) (fun _ U o U' => ∃ v L, o = .returned v ∧ Q7t38 Z a1 x1 x2 tn ts tm tp kn ks km kp nd0 nd1 nd2 s0 s1 s2 m0 m1 m2 p0 p1 p2 u_size h0 n0 v U'.heap L ∧ FrameEnd U o U' L ({ frames := 0, cells := 0, slots := 0, locals := 0 } : Room).cells ({ frames := 0, cells := 0, slots := 0, locals := 0 } : Room).slots) := by
  refine MetFree.of_bodySF (plainFor_of_name pn_0) hisR ?_
  intro p e s m args below meth c s₁ Bd hml0 hP hK
  obtain ⟨rfl, hZ, hh⟩ := hP
  have hx := Bd.exec
  have hby := Bd.bytes
  have hml : c.maxLocals = 7 := hml0
  have hown : s.vm.findClass "com/example/tandemcab/tandemcab/NodeQueue" = some m.cls := findClass_of_methodNamed Bd.named
  have hnm := (name_of_methodNamed Bd.named Bd.method).1
  have X0 : Stand p l e ({ frames := 0, cells := 0, slots := 0, locals := 0 } : Room) s m #[(.ref a1), (.int 2), (.double x1), (.double x2), (.int 2)] below meth c s₁ [] 0 0 := Stand.of_body Bd
  have e0 : s₁.heap = h0 := by rw [← hh, Bd.state]; rfl
  have NF := Fr.nil n0
  have KP : Keep h0 h0 [a1, tn, ts, tm, tp] := Keep.refl h0 _
  refine WP.go ?_
  refine WP.cast (ef_7t38 m a1 x1 x2) ?_
  refine WP.name ?_
  intro G hG
  refine WP.st (T' := s₁) (f' := (mkF m 1 #[.val (.ref a1), .val (.int 2), .val (.double x1), .second, .val (.double x2), .second, .val (.int 2)] [(.ref a1)])) (fun t k => ?_) ?_
  · refine XS.aloadN X0.here hx rfl (hb hby d7_0) rfl rfl ?_
    exact k
  obtain ⟨T340, X340, e340, st340⟩ := getF X0 hx hZ hown (host := "") (Or.inl (w_10 hw)) Via.refl e0 F_a1_nodes (g := (mkF m 1 #[.val (.ref a1), .val (.int 2), .val (.double x1), .second, .val (.double x2), .second, .val (.int 2)] [(.ref a1)])) rfl rfl (hb hby d7_1)
  refine WP.st st340 ?_
  clear st340
  show WP p.tables e below _ T340 (mkF m 4 #[.val (.ref a1), .val (.int 2), .val (.double x1), .second, .val (.double x2), .second, .val (.int 2)] [(.ref tn)])
  refine WP.st (T' := T340) (f' := (mkF m 7 #[.val (.ref a1), .val (.int 2), .val (.double x1), .second, .val (.double x2), .second, .val (.int 2)] [(.int 2), (.int 2), (.ref tn)])) (fun t k => ?_) ?_
  · refine XS.iload X340.here hx rfl (hb hby d7_4) rfl ?_
    refine XS.iloadN X340.here hx rfl (hb hby d7_6) rfl ?_
    exact k
  obtain ⟨cl341, Ar341, q341, S341, N341, H341, G341⟩ := V_tn
  have hin341 : ¬ ((2 : Int32) < 0 ∨ cl341.slots.size ≤ ((2 : Int32)).toNatClampNeg) := inb_of S341 ⟨by decide, by decide⟩
  obtain ⟨T342, h342, X342, e342, W342, st342⟩ := stI X340 hx hZ e340 Ar341 (j := (2 : Int32)) hin341 (g := (mkF m 7 #[.val (.ref a1), .val (.int 2), .val (.double x1), .second, .val (.double x2), .second, .val (.int 2)] [(.int 2), (.int 2), (.ref tn)])) rfl rfl (hb hby d7_7)
  refine WP.st st342 ?_
  clear st342
  have Vn : Arv Z h342 tn kn .int (3 : Int32) [nd0, nd1, (.int 2)] (.int 0) := Arv.set Ar341 q341 S341 N341 H341 G341 rfl W342 2 rfl (Nat.le_of_ble_eq_true rfl)
  replace E_a1 := E_a1.wr W342
  replace F_a1_nodes := F_a1_nodes.other W342 (Or.inl ne_a1_tn)
  replace F_a1_seconds := F_a1_seconds.other W342 (Or.inl ne_a1_tn)
  replace F_a1_metres := F_a1_metres.other W342 (Or.inl ne_a1_tn)
  replace F_a1_position := F_a1_position.other W342 (Or.inl ne_a1_tn)
  replace F_a1_size := F_a1_size.other W342 (Or.inl ne_a1_tn)
  replace V_ts := V_ts.other W342 (Ne.symm ne_tn_ts)
  replace V_tm := V_tm.other W342 (Ne.symm ne_tn_tm)
  replace V_tp := V_tp.other W342 (Ne.symm ne_tn_tp)
  replace Z0 := Nat.le_trans Z0 (Keep.of_wr W342).1
  replace KP := KP.wr W342 (Or.inl (List.mem_of_getElem? (i := 1) rfl))
  replace V_tn := Vn
  replace NF := Fr.snoc X342 NF g_tn
  clear W342 hin341 q341 S341 N341 H341 G341 Ar341
  show WP p.tables e below _ T342 (mkF m 8 #[.val (.ref a1), .val (.int 2), .val (.double x1), .second, .val (.double x2), .second, .val (.int 2)] [])
  refine WP.st (T' := T342) (f' := (mkF m 9 #[.val (.ref a1), .val (.int 2), .val (.double x1), .second, .val (.double x2), .second, .val (.int 2)] [(.ref a1)])) (fun t k => ?_) ?_
  · refine XS.aloadN X342.here hx rfl (hb hby d7_8) rfl rfl ?_
    exact k
  obtain ⟨T343, X343, e343, st343⟩ := getF X342 hx hZ hown (host := "") (Or.inl (w_13 hw)) Via.refl e342 F_a1_seconds (g := (mkF m 9 #[.val (.ref a1), .val (.int 2), .val (.double x1), .second, .val (.double x2), .second, .val (.int 2)] [(.ref a1)])) rfl rfl (hb hby d7_9)
  refine WP.st st343 ?_
  clear st343
  show WP p.tables e below _ T343 (mkF m 12 #[.val (.ref a1), .val (.int 2), .val (.double x1), .second, .val (.double x2), .second, .val (.int 2)] [(.ref ts)])
  refine WP.st (T' := T343) (f' := (mkF m 15 #[.val (.ref a1), .val (.int 2), .val (.double x1), .second, .val (.double x2), .second, .val (.int 2)] [(.double x1), (.int 2), (.ref ts)])) (fun t k => ?_) ?_
  · refine XS.iload X343.here hx rfl (hb hby d7_12) rfl ?_
    refine XS.dloadN X343.here hx rfl (hb hby d7_14) rfl ?_
    exact k
  obtain ⟨cl344, Ar344, q344, S344, N344, H344, G344⟩ := V_ts
  have hin344 : ¬ ((2 : Int32) < 0 ∨ cl344.slots.size ≤ ((2 : Int32)).toNatClampNeg) := inb_of S344 ⟨by decide, by decide⟩
  obtain ⟨T345, h345, X345, e345, W345, st345⟩ := stD X343 hx hZ e343 Ar344 (j := (2 : Int32)) hin344 (g := (mkF m 15 #[.val (.ref a1), .val (.int 2), .val (.double x1), .second, .val (.double x2), .second, .val (.int 2)] [(.double x1), (.int 2), (.ref ts)])) rfl rfl (hb hby d7_15)
  refine WP.st st345 ?_
  clear st345
  have Vn : Arv Z h345 ts ks .double (3 : Int32) [s0, s1, (.double x1)] (.double 0) := Arv.set Ar344 q344 S344 N344 H344 G344 rfl W345 2 rfl (Nat.le_of_ble_eq_true rfl)
  replace E_a1 := E_a1.wr W345
  replace F_a1_nodes := F_a1_nodes.other W345 (Or.inl ne_a1_ts)
  replace F_a1_seconds := F_a1_seconds.other W345 (Or.inl ne_a1_ts)
  replace F_a1_metres := F_a1_metres.other W345 (Or.inl ne_a1_ts)
  replace F_a1_position := F_a1_position.other W345 (Or.inl ne_a1_ts)
  replace F_a1_size := F_a1_size.other W345 (Or.inl ne_a1_ts)
  replace V_tm := V_tm.other W345 (Ne.symm ne_ts_tm)
  replace V_tp := V_tp.other W345 (Ne.symm ne_ts_tp)
  replace V_tn := V_tn.other W345 ne_tn_ts
  replace Z0 := Nat.le_trans Z0 (Keep.of_wr W345).1
  replace KP := KP.wr W345 (Or.inl (List.mem_of_getElem? (i := 2) rfl))
  replace V_ts := Vn
  replace NF := Fr.snoc X345 NF g_ts
  clear W345 hin344 q344 S344 N344 H344 G344 Ar344
  show WP p.tables e below _ T345 (mkF m 16 #[.val (.ref a1), .val (.int 2), .val (.double x1), .second, .val (.double x2), .second, .val (.int 2)] [])
  refine WP.st (T' := T345) (f' := (mkF m 17 #[.val (.ref a1), .val (.int 2), .val (.double x1), .second, .val (.double x2), .second, .val (.int 2)] [(.ref a1)])) (fun t k => ?_) ?_
  · refine XS.aloadN X345.here hx rfl (hb hby d7_16) rfl rfl ?_
    exact k
  obtain ⟨T346, X346, e346, st346⟩ := getF X345 hx hZ hown (host := "") (Or.inl (w_15 hw)) Via.refl e345 F_a1_metres (g := (mkF m 17 #[.val (.ref a1), .val (.int 2), .val (.double x1), .second, .val (.double x2), .second, .val (.int 2)] [(.ref a1)])) rfl rfl (hb hby d7_17)
  refine WP.st st346 ?_
  clear st346
  show WP p.tables e below _ T346 (mkF m 20 #[.val (.ref a1), .val (.int 2), .val (.double x1), .second, .val (.double x2), .second, .val (.int 2)] [(.ref tm)])
  refine WP.st (T' := T346) (f' := (mkF m 24 #[.val (.ref a1), .val (.int 2), .val (.double x1), .second, .val (.double x2), .second, .val (.int 2)] [(.double x2), (.int 2), (.ref tm)])) (fun t k => ?_) ?_
  · refine XS.iload X346.here hx rfl (hb hby d7_20) rfl ?_
    refine XS.dload X346.here hx rfl (hb hby d7_22) rfl ?_
    exact k
  obtain ⟨cl347, Ar347, q347, S347, N347, H347, G347⟩ := V_tm
  have hin347 : ¬ ((2 : Int32) < 0 ∨ cl347.slots.size ≤ ((2 : Int32)).toNatClampNeg) := inb_of S347 ⟨by decide, by decide⟩
  obtain ⟨T348, h348, X348, e348, W348, st348⟩ := stD X346 hx hZ e346 Ar347 (j := (2 : Int32)) hin347 (g := (mkF m 24 #[.val (.ref a1), .val (.int 2), .val (.double x1), .second, .val (.double x2), .second, .val (.int 2)] [(.double x2), (.int 2), (.ref tm)])) rfl rfl (hb hby d7_24)
  refine WP.st st348 ?_
  clear st348
  have Vn : Arv Z h348 tm km .double (3 : Int32) [m0, m1, (.double x2)] (.double 0) := Arv.set Ar347 q347 S347 N347 H347 G347 rfl W348 2 rfl (Nat.le_of_ble_eq_true rfl)
  replace E_a1 := E_a1.wr W348
  replace F_a1_nodes := F_a1_nodes.other W348 (Or.inl ne_a1_tm)
  replace F_a1_seconds := F_a1_seconds.other W348 (Or.inl ne_a1_tm)
  replace F_a1_metres := F_a1_metres.other W348 (Or.inl ne_a1_tm)
  replace F_a1_position := F_a1_position.other W348 (Or.inl ne_a1_tm)
  replace F_a1_size := F_a1_size.other W348 (Or.inl ne_a1_tm)
  replace V_tp := V_tp.other W348 (Ne.symm ne_tm_tp)
  replace V_tn := V_tn.other W348 ne_tn_tm
  replace V_ts := V_ts.other W348 ne_ts_tm
  replace Z0 := Nat.le_trans Z0 (Keep.of_wr W348).1
  replace KP := KP.wr W348 (Or.inl (List.mem_of_getElem? (i := 3) rfl))
  replace V_tm := Vn
  replace NF := Fr.snoc X348 NF g_tm
  clear W348 hin347 q347 S347 N347 H347 G347 Ar347
  show WP p.tables e below _ T348 (mkF m 25 #[.val (.ref a1), .val (.int 2), .val (.double x1), .second, .val (.double x2), .second, .val (.int 2)] [])
  refine WP.st (T' := T348) (f' := (mkF m 26 #[.val (.ref a1), .val (.int 2), .val (.double x1), .second, .val (.double x2), .second, .val (.int 2)] [(.ref a1)])) (fun t k => ?_) ?_
  · refine XS.aloadN X348.here hx rfl (hb hby d7_25) rfl rfl ?_
    exact k
  obtain ⟨T349, X349, e349, st349⟩ := getF X348 hx hZ hown (host := "") (Or.inl (w_17 hw)) Via.refl e348 F_a1_position (g := (mkF m 26 #[.val (.ref a1), .val (.int 2), .val (.double x1), .second, .val (.double x2), .second, .val (.int 2)] [(.ref a1)])) rfl rfl (hb hby d7_26)
  refine WP.st st349 ?_
  clear st349
  show WP p.tables e below _ T349 (mkF m 29 #[.val (.ref a1), .val (.int 2), .val (.double x1), .second, .val (.double x2), .second, .val (.int 2)] [(.ref tp)])
  refine WP.st (T' := T349) (f' := (mkF m 34 #[.val (.ref a1), .val (.int 2), .val (.double x1), .second, .val (.double x2), .second, .val (.int 2)] [(.int ((2 : Int32) + (1 : Int32))), (.int 2), (.ref tp)])) (fun t k => ?_) ?_
  · refine XS.iloadN X349.here hx rfl (hb hby d7_29) rfl ?_
    refine XS.iload X349.here hx rfl (hb hby d7_30) rfl ?_
    refine XS.iconst X349.here hx rfl (hb hby d7_32) ?_
    refine XS.iadd X349.here hx rfl (hb hby d7_33) rfl ?_
    exact k
  rw [show ((2 : Int32) + (1 : Int32)) = (3 : Int32) from by decide]
  show WP p.tables e below _ T349 (mkF m 34 #[.val (.ref a1), .val (.int 2), .val (.double x1), .second, .val (.double x2), .second, .val (.int 2)] [(.int 3), (.int 2), (.ref tp)])
  obtain ⟨cl350, Ar350, q350, S350, N350, H350, G350⟩ := V_tp
  have hin350 : ¬ ((2 : Int32) < 0 ∨ cl350.slots.size ≤ ((2 : Int32)).toNatClampNeg) := inb_of S350 ⟨by decide, by decide⟩
  obtain ⟨T351, h351, X351, e351, W351, st351⟩ := stI X349 hx hZ e349 Ar350 (j := (2 : Int32)) hin350 (g := (mkF m 34 #[.val (.ref a1), .val (.int 2), .val (.double x1), .second, .val (.double x2), .second, .val (.int 2)] [(.int 3), (.int 2), (.ref tp)])) rfl rfl (hb hby d7_34)
  refine WP.st st351 ?_
  clear st351
  have Vn : Arv Z h351 tp kp .int (3 : Int32) [p0, p1, (.int 3)] (.int 0) := Arv.set Ar350 q350 S350 N350 H350 G350 rfl W351 2 rfl (Nat.le_of_ble_eq_true rfl)
  replace E_a1 := E_a1.wr W351
  replace F_a1_nodes := F_a1_nodes.other W351 (Or.inl ne_a1_tp)
  replace F_a1_seconds := F_a1_seconds.other W351 (Or.inl ne_a1_tp)
  replace F_a1_metres := F_a1_metres.other W351 (Or.inl ne_a1_tp)
  replace F_a1_position := F_a1_position.other W351 (Or.inl ne_a1_tp)
  replace F_a1_size := F_a1_size.other W351 (Or.inl ne_a1_tp)
  replace V_tn := V_tn.other W351 ne_tn_tp
  replace V_ts := V_ts.other W351 ne_ts_tp
  replace V_tm := V_tm.other W351 ne_tm_tp
  replace Z0 := Nat.le_trans Z0 (Keep.of_wr W351).1
  replace KP := KP.wr W351 (Or.inl (List.mem_of_getElem? (i := 4) rfl))
  replace V_tp := Vn
  replace NF := Fr.snoc X351 NF g_tp
  clear W351 hin350 q350 S350 N350 H350 G350 Ar350
  show WP p.tables e below _ T351 (mkF m 35 #[.val (.ref a1), .val (.int 2), .val (.double x1), .second, .val (.double x2), .second, .val (.int 2)] [])
  subst hG
  obtain ⟨fs, hr, hrun, hended, hW, hsame⟩ := X351.leave (v := none) (fun _ => rfl)
  refine WP.fin ⟨_, _, ?_, hrun, hended, _, _, rfl, ?_, ⟨_, rfl⟩, hW, hsame.mono (by decide) (by decide)⟩
  · exact X351.returnOut hx Bd.returns (hb hby d7_35) hr
  · show Q7t38 Z a1 x1 x2 tn ts tm tp kn ks km kp nd0 nd1 nd2 s0 s1 s2 m0 m1 m2 p0 p1 p2 u_size h0 n0 _ T351.heap _
    rw [e351]
    exact ⟨rfl, NF, KP, F_a1_nodes, F_a1_seconds, F_a1_metres, F_a1_position, F_a1_size, V_tn, V_ts, V_tm, V_tp⟩
theorem ef_9t37 (m : MethodId) (z0 : Addr) : entryFrame m #[(.ref z0), (.int 0), (.int 2)] 3 = mkF m 0 #[.val (.ref z0), .val (.int 0), .val (.int 2)] [] := by
  all_goals first | (simp [entryFrame, mkF, argsToLocals, Value.category]; done) | rfl
def Q9t37 (Z : State) (a1 : Addr) (tn : Addr) (ts : Addr) (tm : Addr) (tp : Addr) (kn : ClassId) (ks : ClassId) (km : ClassId) (kp : ClassId) (nd1 : Value) (nd2 : Value) (y1 : UInt64) (s1 : Value) (s2 : Value) (y2 : UInt64) (m1 : Value) (m2 : Value) (p0 : Value) (p1 : Value) (p2 : Value) (u_size : Int32) (h0 : Heap) (n0 : Nat) (v : Option Value) (h : Heap) (L : List Loc) : Prop := v = none ∧ Fr n0 L ∧ Keep h0 h [a1, tn, ts, tm, tp] ∧ Fld Z h a1 "com/example/tandemcab/tandemcab/NodeQueue" "nodes" "[I" (.ref tn) ∧ Fld Z h a1 "com/example/tandemcab/tandemcab/NodeQueue" "seconds" "[D" (.ref ts) ∧ Fld Z h a1 "com/example/tandemcab/tandemcab/NodeQueue" "metres" "[D" (.ref tm) ∧ Fld Z h a1 "com/example/tandemcab/tandemcab/NodeQueue" "position" "[I" (.ref tp) ∧ Fld Z h a1 "com/example/tandemcab/tandemcab/NodeQueue" "size" "I" (.int u_size) ∧ (Arv Z h tn kn .int (3 : Int32) [(.int 2), nd1, (.int 2)] (.int 0)) ∧ (Arv Z h ts ks .double (3 : Int32) [(.double y1), s1, (.double y1)] (.double 0)) ∧ (Arv Z h tm km .double (3 : Int32) [(.double y2), m1, (.double y2)] (.double 0)) ∧ (Arv Z h tp kp .int (3 : Int32) [p0, p1, (.int 3)] (.int 0))
set_option maxRecDepth 65536 in
set_option maxHeartbeats 40000000 in
theorem rm9t37 (l : Launch) (Z : State) (a0 : Array Value) (hw : ∀ d ∈ tables_1, d.before a0 Z = true) (wsC : List Jvm.Cond) (a1 : Addr) (tn : Addr) (ts : Addr) (tm : Addr) (tp : Addr) (kn : ClassId) (ks : ClassId) (km : ClassId) (kp : ClassId) (nd1 : Value) (nd2 : Value) (y1 : UInt64) (s1 : Value) (s2 : Value) (y2 : UInt64) (m1 : Value) (m2 : Value) (p0 : Value) (p1 : Value) (p2 : Value) (u_size : Int32) (h0 : Heap) (n0 : Nat) (Z0 : n0 ≤ h0.size) (E_a1 : Exa Z h0 a1 "com/example/tandemcab/tandemcab/NodeQueue") (F_a1_nodes : Fld Z h0 a1 "com/example/tandemcab/tandemcab/NodeQueue" "nodes" "[I" (.ref tn)) (F_a1_seconds : Fld Z h0 a1 "com/example/tandemcab/tandemcab/NodeQueue" "seconds" "[D" (.ref ts)) (F_a1_metres : Fld Z h0 a1 "com/example/tandemcab/tandemcab/NodeQueue" "metres" "[D" (.ref tm)) (F_a1_position : Fld Z h0 a1 "com/example/tandemcab/tandemcab/NodeQueue" "position" "[I" (.ref tp)) (F_a1_size : Fld Z h0 a1 "com/example/tandemcab/tandemcab/NodeQueue" "size" "I" (.int u_size)) (V_tn : Arv Z h0 tn kn .int (3 : Int32) [(.int 2), nd1, nd2] (.int 0)) (V_ts : Arv Z h0 ts ks .double (3 : Int32) [(.double y1), s1, s2] (.double 0)) (V_tm : Arv Z h0 tm km .double (3 : Int32) [(.double y2), m1, m2] (.double 0)) (V_tp : Arv Z h0 tp kp .int (3 : Int32) [p0, p1, p2] (.int 0)) (g_a1 : n0 ≤ a1) (g_tn : n0 ≤ tn) (g_ts : n0 ≤ ts) (g_tm : n0 ≤ tm) (g_tp : n0 ≤ tp) (ne_a1_tn : a1 ≠ tn) (ne_a1_ts : a1 ≠ ts) (ne_a1_tm : a1 ≠ tm) (ne_a1_tp : a1 ≠ tp) (ne_tn_ts : tn ≠ ts) (ne_tn_tm : tn ≠ tm) (ne_tn_tp : tn ≠ tp) (ne_ts_tm : ts ≠ tm) (ne_ts_tp : ts ≠ tp) (ne_tm_tp : tm ≠ tp) :
    MetFree l (⟨"com/example/tandemcab/tandemcab/NodeQueue", "move", "(II)V"⟩ : MethodName) (head1 (Jvm.Cond.code (⟨"com/example/tandemcab/tandemcab/NodeQueue", "move", "(II)V"⟩ : MethodName) prog_49_method_9_code 3 none :: wsC) ({ frames := 1, cells := 0, slots := 0, locals := 18 } : Room)) (fun a U => a = #[(.ref a1), (.int 0), (.int 2)] ∧ Z.Warmed39 U.vm ∧ U.heap = h0) (fun _ _ _ _ _ => True) (fun _ U o U' => ∃ v L, o = .returned v ∧ Q9t37 Z a1 tn ts tm tp kn ks km kp nd1 nd2 y1 s1 s2 y2 m1 m2 p0 p1 p2 u_size h0 n0 v U'.heap L ∧ FrameEnd U o U' L ({ frames := 1, cells := 0, slots := 0, locals := 18 } : Room).cells ({ frames := 1, cells := 0, slots := 0, locals := 18 } : Room).slots) := by
  refine MetFree.of_bodySF (plainFor_of_name pn_0) hisR ?_
  intro p e s m args below meth c s₁ Bd hml0 hP hK
  obtain ⟨rfl, hZ, hh⟩ := hP
  have hx := Bd.exec
  have hby := Bd.bytes
  have hml : c.maxLocals = 3 := hml0
  have hown : s.vm.findClass "com/example/tandemcab/tandemcab/NodeQueue" = some m.cls := findClass_of_methodNamed Bd.named
  have hnm := (name_of_methodNamed Bd.named Bd.method).1
  have X0 : Stand p l e ({ frames := 1, cells := 0, slots := 0, locals := 18 } : Room) s m #[(.ref a1), (.int 0), (.int 2)] below meth c s₁ [] 0 0 := Stand.of_body Bd
  have e0 : s₁.heap = h0 := by rw [← hh, Bd.state]; rfl
  have NF := Fr.nil n0
  have KP : Keep h0 h0 [a1, tn, ts, tm, tp] := Keep.refl h0 _
  refine WP.go ?_
  refine WP.cast (ef_9t37 m a1) ?_
  refine WP.name ?_
  intro G hG
  refine WP.st (T' := s₁) (f' := (mkF m 2 #[.val (.ref a1), .val (.int 0), .val (.int 2)] [(.ref a1), (.ref a1)])) (fun t k => ?_) ?_
  · refine XS.aloadN X0.here hx rfl (hb hby d9_0) rfl rfl ?_
    refine XS.aloadN X0.here hx rfl (hb hby d9_1) rfl rfl ?_
    exact k
  obtain ⟨T352, X352, e352, st352⟩ := getF X0 hx hZ hown (host := "") (Or.inl (w_10 hw)) Via.refl e0 F_a1_nodes (g := (mkF m 2 #[.val (.ref a1), .val (.int 0), .val (.int 2)] [(.ref a1), (.ref a1)])) rfl rfl (hb hby d9_2)
  refine WP.st st352 ?_
  clear st352
  show WP p.tables e below _ T352 (mkF m 5 #[.val (.ref a1), .val (.int 0), .val (.int 2)] [(.ref tn), (.ref a1)])
  refine WP.st (T' := T352) (f' := (mkF m 6 #[.val (.ref a1), .val (.int 0), .val (.int 2)] [(.int 0), (.ref tn), (.ref a1)])) (fun t k => ?_) ?_
  · refine XS.iloadN X352.here hx rfl (hb hby d9_5) rfl ?_
    exact k
  obtain ⟨cl353, Ar353, hin353, hat353, -⟩ := V_tn.rd (j := (0 : Int32)) ⟨by decide, by decide⟩
  replace hat353 : cl353.slots[((0 : Int32)).toNatClampNeg]? = some (.int 2) := hat353
  refine WP.st (T' := T352) (f' := (mkF m 8 #[.val (.ref a1), .val (.int 0), .val (.int 2)] [(.ref a1), (.int 2), (.ref a1)])) (fun t k => ?_) ?_
  · refine X352.iaload hx (j := (0 : Int32)) (v := (.int 2)) (by rw [e352]; exact Ar353.1) (State.isArrayOf_alike hZ.alike Ar353.2.1) Ar353.2.2 hin353 hat353 (g := (mkF m 6 #[.val (.ref a1), .val (.int 0), .val (.int 2)] [(.int 0), (.ref tn), (.ref a1)])) rfl rfl (hb hby d9_6) _ ?_
    refine XS.aloadN X352.here hx rfl (hb hby d9_7) rfl rfl ?_
    exact k
  obtain ⟨T354, X354, e354, st354⟩ := getF X352 hx hZ hown (host := "") (Or.inl (w_13 hw)) Via.refl e352 F_a1_seconds (g := (mkF m 8 #[.val (.ref a1), .val (.int 0), .val (.int 2)] [(.ref a1), (.int 2), (.ref a1)])) rfl rfl (hb hby d9_8)
  refine WP.st st354 ?_
  clear st354
  show WP p.tables e below _ T354 (mkF m 11 #[.val (.ref a1), .val (.int 0), .val (.int 2)] [(.ref ts), (.int 2), (.ref a1)])
  refine WP.st (T' := T354) (f' := (mkF m 12 #[.val (.ref a1), .val (.int 0), .val (.int 2)] [(.int 0), (.ref ts), (.int 2), (.ref a1)])) (fun t k => ?_) ?_
  · refine XS.iloadN X354.here hx rfl (hb hby d9_11) rfl ?_
    exact k
  obtain ⟨cl355, Ar355, hin355, hat355, -⟩ := V_ts.rd (j := (0 : Int32)) ⟨by decide, by decide⟩
  replace hat355 : cl355.slots[((0 : Int32)).toNatClampNeg]? = some (.double y1) := hat355
  refine WP.st (T' := T354) (f' := (mkF m 14 #[.val (.ref a1), .val (.int 0), .val (.int 2)] [(.ref a1), (.double y1), (.int 2), (.ref a1)])) (fun t k => ?_) ?_
  · refine X354.daload hx (j := (0 : Int32)) (v := (.double y1)) (by rw [e354]; exact Ar355.1) (State.isArrayOf_alike hZ.alike Ar355.2.1) Ar355.2.2 hin355 hat355 (g := (mkF m 12 #[.val (.ref a1), .val (.int 0), .val (.int 2)] [(.int 0), (.ref ts), (.int 2), (.ref a1)])) rfl rfl (hb hby d9_12) _ ?_
    refine XS.aloadN X354.here hx rfl (hb hby d9_13) rfl rfl ?_
    exact k
  obtain ⟨T356, X356, e356, st356⟩ := getF X354 hx hZ hown (host := "") (Or.inl (w_15 hw)) Via.refl e354 F_a1_metres (g := (mkF m 14 #[.val (.ref a1), .val (.int 0), .val (.int 2)] [(.ref a1), (.double y1), (.int 2), (.ref a1)])) rfl rfl (hb hby d9_14)
  refine WP.st st356 ?_
  clear st356
  show WP p.tables e below _ T356 (mkF m 17 #[.val (.ref a1), .val (.int 0), .val (.int 2)] [(.ref tm), (.double y1), (.int 2), (.ref a1)])
  refine WP.st (T' := T356) (f' := (mkF m 18 #[.val (.ref a1), .val (.int 0), .val (.int 2)] [(.int 0), (.ref tm), (.double y1), (.int 2), (.ref a1)])) (fun t k => ?_) ?_
  · refine XS.iloadN X356.here hx rfl (hb hby d9_17) rfl ?_
    exact k
  obtain ⟨cl357, Ar357, hin357, hat357, -⟩ := V_tm.rd (j := (0 : Int32)) ⟨by decide, by decide⟩
  replace hat357 : cl357.slots[((0 : Int32)).toNatClampNeg]? = some (.double y2) := hat357
  refine WP.st (T' := T356) (f' := (mkF m 20 #[.val (.ref a1), .val (.int 0), .val (.int 2)] [(.int 2), (.double y2), (.double y1), (.int 2), (.ref a1)])) (fun t k => ?_) ?_
  · refine X356.daload hx (j := (0 : Int32)) (v := (.double y2)) (by rw [e356]; exact Ar357.1) (State.isArrayOf_alike hZ.alike Ar357.2.1) Ar357.2.2 hin357 hat357 (g := (mkF m 18 #[.val (.ref a1), .val (.int 0), .val (.int 2)] [(.int 0), (.ref tm), (.double y1), (.int 2), (.ref a1)])) rfl rfl (hb hby d9_18) _ ?_
    refine XS.iloadN X356.here hx rfl (hb hby d9_19) rfl ?_
    exact k
  obtain ⟨cq358, q358, q358'⟩ := E_a1.cell
  obtain ⟨_, _, ⟨T358, L358, k358, n358⟩, -, X358, ⟨Lc358, hQ358, l358, y358, z358⟩, st358⟩ := X356.privateBack hx (y := (⟨"com/example/tandemcab/tandemcab/NodeQueue", "place", "(IDDI)V"⟩ : MethodName)) hown (mvT hZ (w_41 hw)) (mvT hZ (w_42 hw)) (ownSel (y := (⟨"com/example/tandemcab/tandemcab/NodeQueue", "place", "(IDDI)V"⟩ : MethodName)) (mvT hZ (w_22 hw)) rfl (Cond.privateMethod_at (mvP hZ (w_43 hw) (args := #[]))) (mvT hZ (w_42 hw)) (by decide)) (Cond.privateMethod_at (mvP hZ (w_43 hw) (args := #[]))) (mvT hZ (w_44 hw)) (by decide) (backOf (W := 0) (rm7t38 l Z a0 hw [] a1 y1 y2 tn ts tm tp kn ks km kp (.int 2) nd1 nd2 (.double y1) s1 s2 (.double y2) m1 m2 p0 p1 p2 u_size h0 n0 Z0 E_a1 F_a1_nodes F_a1_seconds F_a1_metres F_a1_position F_a1_size V_tn V_ts V_tm V_tp g_a1 g_tn g_ts g_tm g_tp ne_a1_tn ne_a1_ts ne_a1_tm ne_a1_tp ne_tn_ts ne_tn_tm ne_tn_tp ne_ts_tm ne_ts_tp ne_tm_tp) hZ (w_44 hw) (w_2 hw) (by decide) (by decide)) (g := (mkF m 20 #[.val (.ref a1), .val (.int 0), .val (.int 2)] [(.int 2), (.double y2), (.double y1), (.int 2), (.ref a1)])) rfl (by rw [hml]; rfl) (Steps.refl _) (a := a1) (by rw [e356]; exact q358) q358' (argsL := [(.int 2), (.double y1), (.double y2), (.int 2)]) (rest := []) (lenOf pd_2 rfl) rfl (by show 2 * 0 + _ ≤ _; exact Nat.le_of_eq rfl) (hb hby d9_20) (fun _ _ => ⟨rfl, e356, (by decide : 0 + 0 ≤ _), (by decide : 0 + 0 ≤ _)⟩)
  dsimp only [Pt.U, Pt.locs, Pt.cells, Pt.slots] at X358 l358 y358 z358 st358 hQ358
  subst l358 y358 z358
  obtain ⟨rfl, Nq358, Kq358, nF358_a1_nodes, nF358_a1_seconds, nF358_a1_metres, nF358_a1_position, nF358_a1_size, nA358_tn, nA358_ts, nA358_tm, nA358_tp⟩ := hQ358
  replace NF := Fr.app NF Nq358
  clear Nq358
  refine WP.tr st358 ?_
  clear st358
  obtain ⟨h358, e358⟩ : ∃ h, T358.heap = h := ⟨_, rfl⟩
  rw [e358] at Kq358 nF358_a1_nodes nF358_a1_seconds nF358_a1_metres nF358_a1_position nF358_a1_size nA358_tn nA358_ts nA358_tm nA358_tp
  replace E_a1 := E_a1.keep Kq358
  clear F_a1_nodes
  clear F_a1_seconds
  clear F_a1_metres
  clear F_a1_position
  clear F_a1_size
  clear V_tn
  clear V_ts
  clear V_tm
  clear V_tp
  replace Z0 := Nat.le_trans Z0 Kq358.1
  replace KP := KP.trans Kq358 (allS (Or.inl (List.mem_of_getElem? (i := 0) rfl)) (allS (Or.inl (List.mem_of_getElem? (i := 1) rfl)) (allS (Or.inl (List.mem_of_getElem? (i := 2) rfl)) (allS (Or.inl (List.mem_of_getElem? (i := 3) rfl)) (allS (Or.inl (List.mem_of_getElem? (i := 4) rfl)) all0)))))
  clear Kq358
  have F_a1_nodes := nF358_a1_nodes
  clear nF358_a1_nodes
  have F_a1_seconds := nF358_a1_seconds
  clear nF358_a1_seconds
  have F_a1_metres := nF358_a1_metres
  clear nF358_a1_metres
  have F_a1_position := nF358_a1_position
  clear nF358_a1_position
  have F_a1_size := nF358_a1_size
  clear nF358_a1_size
  have V_tn := nA358_tn
  clear nA358_tn
  have V_ts := nA358_ts
  clear nA358_ts
  have V_tm := nA358_tm
  clear nA358_tm
  have V_tp := nA358_tp
  clear nA358_tp
  show WP p.tables e below _ T358 (mkF m 23 #[.val (.ref a1), .val (.int 0), .val (.int 2)] [])
  subst hG
  obtain ⟨fs, hr, hrun, hended, hW, hsame⟩ := X358.leave (v := none) (fun _ => rfl)
  refine WP.fin ⟨_, _, ?_, hrun, hended, _, _, rfl, ?_, ⟨_, rfl⟩, hW, hsame.mono (by decide) (by decide)⟩
  · exact X358.returnOut hx Bd.returns (hb hby d9_23) hr
  · show Q9t37 Z a1 tn ts tm tp kn ks km kp nd1 nd2 y1 s1 s2 y2 m1 m2 p0 p1 p2 u_size h0 n0 _ T358.heap _
    rw [e358]
    exact ⟨rfl, NF, KP, F_a1_nodes, F_a1_seconds, F_a1_metres, F_a1_position, F_a1_size, V_tn, V_ts, V_tm, V_tp⟩
theorem ef_6t36 (m : MethodId) (z0 : Addr) (z2 : UInt64) (z3 : UInt64) : entryFrame m #[(.ref z0), (.int 0), (.double z2), (.double z3), (.int 2)] 8 = mkF m 0 #[.val (.ref z0), .val (.int 0), .val (.double z2), .second, .val (.double z3), .second, .val (.int 2), .unset] [] := by
  all_goals first | (simp [entryFrame, mkF, argsToLocals, Value.category]; done) | rfl
def Q6t36 (Z : State) (a1 : Addr) (x1 : UInt64) (x2 : UInt64) (tn : Addr) (ts : Addr) (tm : Addr) (tp : Addr) (kn : ClassId) (ks : ClassId) (km : ClassId) (kp : ClassId) (nd1 : Value) (nd2 : Value) (y1 : UInt64) (s1 : Value) (s2 : Value) (y2 : UInt64) (m1 : Value) (m2 : Value) (p0 : Value) (p1 : Value) (p2 : Value) (u_size : Int32) (h0 : Heap) (n0 : Nat) (v : Option Value) (h : Heap) (L : List Loc) : Prop := v = none ∧ Fr n0 L ∧ Keep h0 h [a1, tn, ts, tm, tp] ∧ Fld Z h a1 "com/example/tandemcab/tandemcab/NodeQueue" "nodes" "[I" (.ref tn) ∧ Fld Z h a1 "com/example/tandemcab/tandemcab/NodeQueue" "seconds" "[D" (.ref ts) ∧ Fld Z h a1 "com/example/tandemcab/tandemcab/NodeQueue" "metres" "[D" (.ref tm) ∧ Fld Z h a1 "com/example/tandemcab/tandemcab/NodeQueue" "position" "[I" (.ref tp) ∧ Fld Z h a1 "com/example/tandemcab/tandemcab/NodeQueue" "size" "I" (.int u_size) ∧ (Arv Z h tn kn .int (3 : Int32) [(.int 0), nd1, (.int 2)] (.int 0)) ∧ (Arv Z h ts ks .double (3 : Int32) [(.double x1), s1, (.double y1)] (.double 0)) ∧ (Arv Z h tm km .double (3 : Int32) [(.double x2), m1, (.double y2)] (.double 0)) ∧ (Arv Z h tp kp .int (3 : Int32) [(.int 1), p1, (.int 3)] (.int 0))
set_option maxRecDepth 65536 in
set_option maxHeartbeats 40000000 in
theorem rm6t36 (l : Launch) (Z : State) (a0 : Array Value) (hw : ∀ d ∈ tables_1, d.before a0 Z = true) (wsC : List Jvm.Cond) (a1 : Addr) (x1 : UInt64) (x2 : UInt64) (tn : Addr) (ts : Addr) (tm : Addr) (tp : Addr) (kn : ClassId) (ks : ClassId) (km : ClassId) (kp : ClassId) (nd1 : Value) (nd2 : Value) (y1 : UInt64) (s1 : Value) (s2 : Value) (y2 : UInt64) (m1 : Value) (m2 : Value) (p0 : Value) (p1 : Value) (p2 : Value) (u_size : Int32) (h0 : Heap) (n0 : Nat) (Z0 : n0 ≤ h0.size) (E_a1 : Exa Z h0 a1 "com/example/tandemcab/tandemcab/NodeQueue") (F_a1_nodes : Fld Z h0 a1 "com/example/tandemcab/tandemcab/NodeQueue" "nodes" "[I" (.ref tn)) (F_a1_seconds : Fld Z h0 a1 "com/example/tandemcab/tandemcab/NodeQueue" "seconds" "[D" (.ref ts)) (F_a1_metres : Fld Z h0 a1 "com/example/tandemcab/tandemcab/NodeQueue" "metres" "[D" (.ref tm)) (F_a1_position : Fld Z h0 a1 "com/example/tandemcab/tandemcab/NodeQueue" "position" "[I" (.ref tp)) (F_a1_size : Fld Z h0 a1 "com/example/tandemcab/tandemcab/NodeQueue" "size" "I" (.int u_size)) (V_tn : Arv Z h0 tn kn .int (3 : Int32) [(.int 2), nd1, nd2] (.int 0)) (V_ts : Arv Z h0 ts ks .double (3 : Int32) [(.double y1), s1, s2] (.double 0)) (V_tm : Arv Z h0 tm km .double (3 : Int32) [(.double y2), m1, m2] (.double 0)) (V_tp : Arv Z h0 tp kp .int (3 : Int32) [p0, p1, p2] (.int 0)) (g_a1 : n0 ≤ a1) (g_tn : n0 ≤ tn) (g_ts : n0 ≤ ts) (g_tm : n0 ≤ tm) (g_tp : n0 ≤ tp) (ne_a1_tn : a1 ≠ tn) (ne_a1_ts : a1 ≠ ts) (ne_a1_tm : a1 ≠ tm) (ne_a1_tp : a1 ≠ tp) (ne_tn_ts : tn ≠ ts) (ne_tn_tm : tn ≠ tm) (ne_tn_tp : tn ≠ tp) (ne_ts_tm : ts ≠ tm) (ne_ts_tp : ts ≠ tp) (ne_tm_tp : tm ≠ tp) (hbef : ¬ ((own_before x1 x2 y1 y2) = (0 : Int32))) :
    MetFree l (⟨"com/example/tandemcab/tandemcab/NodeQueue", "up", "(IDDI)V"⟩ : MethodName) (head1 (Jvm.Cond.code (⟨"com/example/tandemcab/tandemcab/NodeQueue", "up", "(IDDI)V"⟩ : MethodName) prog_49_method_7_code 8 none :: wsC) ({ frames := 2, cells := 0, slots := 0, locals := 32 } : Room)) (fun a U => a = #[(.ref a1), (.int 0), (.double x1), (.double x2), (.int 2)] ∧ Z.Warmed39 U.vm ∧ U.heap = h0) (fun _ _ _ _ _ => True) (fun _ U o U' => ∃ v L, o = .returned v ∧ Q6t36 Z a1 x1 x2 tn ts tm tp kn ks km kp nd1 nd2 y1 s1 s2 y2 m1 m2 p0 p1 p2 u_size h0 n0 v U'.heap L ∧ FrameEnd U o U' L ({ frames := 2, cells := 0, slots := 0, locals := 32 } : Room).cells ({ frames := 2, cells := 0, slots := 0, locals := 32 } : Room).slots) := by
  refine MetFree.of_bodySF (plainFor_of_name pn_0) hisR ?_
  intro p e s m args below meth c s₁ Bd hml0 hP hK
  obtain ⟨rfl, hZ, hh⟩ := hP
  have hx := Bd.exec
  have hby := Bd.bytes
  have hml : c.maxLocals = 8 := hml0
  have hown : s.vm.findClass "com/example/tandemcab/tandemcab/NodeQueue" = some m.cls := findClass_of_methodNamed Bd.named
  have hnm := (name_of_methodNamed Bd.named Bd.method).1
  have X0 : Stand p l e ({ frames := 2, cells := 0, slots := 0, locals := 32 } : Room) s m #[(.ref a1), (.int 0), (.double x1), (.double x2), (.int 2)] below meth c s₁ [] 0 0 := Stand.of_body Bd
  have e0 : s₁.heap = h0 := by rw [← hh, Bd.state]; rfl
  have NF := Fr.nil n0
  have KP : Keep h0 h0 [a1, tn, ts, tm, tp] := Keep.refl h0 _
  refine WP.go ?_
  refine WP.cast (ef_6t36 m a1 x1 x2) ?_
  refine WP.name ?_
  intro G hG
  refine WP.st (T' := s₁) (f' := (mkF m 9 #[.val (.ref a1), .val (.int 0), .val (.double x1), .second, .val (.double x2), .second, .val (.int 2), .unset] [(.int ((2 : Int32) - (1 : Int32)))])) (fun t k => ?_) ?_
  · refine XS.iload X0.here hx rfl (hb hby d6_0) rfl ?_
    refine XS.ifNo X0.here hx rfl (hb hby d6_2) rfl ((if0 _ _).trans (tlt (by decide : (0 : Int32) < (2 : Int32))).2.2.2) ?_
    refine XS.iload X0.here hx rfl (hb hby d6_5) rfl ?_
    refine XS.iconst X0.here hx rfl (hb hby d6_7) ?_
    refine XS.isub X0.here hx rfl (hb hby d6_8) rfl ?_
    exact k
  rw [show ((2 : Int32) - (1 : Int32)) = (1 : Int32) from by decide]
  show WP p.tables e below _ s₁ (mkF m 9 #[.val (.ref a1), .val (.int 0), .val (.double x1), .second, .val (.double x2), .second, .val (.int 2), .unset] [(.int 1)])
  refine WP.st (T' := s₁) (f' := (mkF m 11 #[.val (.ref a1), .val (.int 0), .val (.double x1), .second, .val (.double x2), .second, .val (.int 2), .unset] [(.int (((1 : Int32).toUInt32 >>> ((1 : Int32) &&& 31).toUInt32).toInt32))])) (fun t k => ?_) ?_
  · refine XS.iconst X0.here hx rfl (hb hby d6_9) ?_
    refine XS.iushr X0.here hx rfl (hb hby d6_10) rfl ?_
    exact k
  rw [show (((1 : Int32).toUInt32 >>> ((1 : Int32) &&& 31).toUInt32).toInt32) = (0 : Int32) from by decide]
  show WP p.tables e below _ s₁ (mkF m 11 #[.val (.ref a1), .val (.int 0), .val (.double x1), .second, .val (.double x2), .second, .val (.int 2), .unset] [(.int 0)])
  refine WP.st (T' := s₁) (f' := (mkF m 17 #[.val (.ref a1), .val (.int 0), .val (.double x1), .second, .val (.double x2), .second, .val (.int 2), .val (.int 0)] [(.ref a1), (.double x2), (.double x1)])) (fun t k => ?_) ?_
  · refine XS.istore X0.here hx rfl (hb hby d6_11) rfl (l' := #[.val (.ref a1), .val (.int 0), .val (.double x1), .second, .val (.double x2), .second, .val (.int 2), .val (.int 0)]) rfl ?_
    refine XS.dloadN X0.here hx rfl (hb hby d6_13) rfl ?_
    refine XS.dload X0.here hx rfl (hb hby d6_14) rfl ?_
    refine XS.aloadN X0.here hx rfl (hb hby d6_16) rfl rfl ?_
    exact k
  obtain ⟨T359, X359, e359, st359⟩ := getF X0 hx hZ hown (host := "") (Or.inl (w_13 hw)) Via.refl e0 F_a1_seconds (g := (mkF m 17 #[.val (.ref a1), .val (.int 0), .val (.double x1), .second, .val (.double x2), .second, .val (.int 2), .val (.int 0)] [(.ref a1), (.double x2), (.double x1)])) rfl rfl (hb hby d6_17)
  refine WP.st st359 ?_
  clear st359
  show WP p.tables e below _ T359 (mkF m 20 #[.val (.ref a1), .val (.int 0), .val (.double x1), .second, .val (.double x2), .second, .val (.int 2), .val (.int 0)] [(.ref ts), (.double x2), (.double x1)])
  refine WP.st (T' := T359) (f' := (mkF m 22 #[.val (.ref a1), .val (.int 0), .val (.double x1), .second, .val (.double x2), .second, .val (.int 2), .val (.int 0)] [(.int 0), (.ref ts), (.double x2), (.double x1)])) (fun t k => ?_) ?_
  · refine XS.iload X359.here hx rfl (hb hby d6_20) rfl ?_
    exact k
  obtain ⟨cl360, Ar360, hin360, hat360, -⟩ := V_ts.rd (j := (0 : Int32)) ⟨by decide, by decide⟩
  replace hat360 : cl360.slots[((0 : Int32)).toNatClampNeg]? = some (.double y1) := hat360
  refine WP.st (T' := T359) (f' := (mkF m 24 #[.val (.ref a1), .val (.int 0), .val (.double x1), .second, .val (.double x2), .second, .val (.int 2), .val (.int 0)] [(.ref a1), (.double y1), (.double x2), (.double x1)])) (fun t k => ?_) ?_
  · refine X359.daload hx (j := (0 : Int32)) (v := (.double y1)) (by rw [e359]; exact Ar360.1) (State.isArrayOf_alike hZ.alike Ar360.2.1) Ar360.2.2 hin360 hat360 (g := (mkF m 22 #[.val (.ref a1), .val (.int 0), .val (.double x1), .second, .val (.double x2), .second, .val (.int 2), .val (.int 0)] [(.int 0), (.ref ts), (.double x2), (.double x1)])) rfl rfl (hb hby d6_22) _ ?_
    refine XS.aloadN X359.here hx rfl (hb hby d6_23) rfl rfl ?_
    exact k
  obtain ⟨T361, X361, e361, st361⟩ := getF X359 hx hZ hown (host := "") (Or.inl (w_15 hw)) Via.refl e359 F_a1_metres (g := (mkF m 24 #[.val (.ref a1), .val (.int 0), .val (.double x1), .second, .val (.double x2), .second, .val (.int 2), .val (.int 0)] [(.ref a1), (.double y1), (.double x2), (.double x1)])) rfl rfl (hb hby d6_24)
  refine WP.st st361 ?_
  clear st361
  show WP p.tables e below _ T361 (mkF m 27 #[.val (.ref a1), .val (.int 0), .val (.double x1), .second, .val (.double x2), .second, .val (.int 2), .val (.int 0)] [(.ref tm), (.double y1), (.double x2), (.double x1)])
  refine WP.st (T' := T361) (f' := (mkF m 29 #[.val (.ref a1), .val (.int 0), .val (.double x1), .second, .val (.double x2), .second, .val (.int 2), .val (.int 0)] [(.int 0), (.ref tm), (.double y1), (.double x2), (.double x1)])) (fun t k => ?_) ?_
  · refine XS.iload X361.here hx rfl (hb hby d6_27) rfl ?_
    exact k
  obtain ⟨cl362, Ar362, hin362, hat362, -⟩ := V_tm.rd (j := (0 : Int32)) ⟨by decide, by decide⟩
  replace hat362 : cl362.slots[((0 : Int32)).toNatClampNeg]? = some (.double y2) := hat362
  refine WP.st (T' := T361) (f' := (mkF m 30 #[.val (.ref a1), .val (.int 0), .val (.double x1), .second, .val (.double x2), .second, .val (.int 2), .val (.int 0)] [(.double y2), (.double y1), (.double x2), (.double x1)])) (fun t k => ?_) ?_
  · refine X361.daload hx (j := (0 : Int32)) (v := (.double y2)) (by rw [e361]; exact Ar362.1) (State.isArrayOf_alike hZ.alike Ar362.2.1) Ar362.2.2 hin362 hat362 (g := (mkF m 29 #[.val (.ref a1), .val (.int 0), .val (.double x1), .second, .val (.double x2), .second, .val (.int 2), .val (.int 0)] [(.int 0), (.ref tm), (.double y1), (.double x2), (.double x1)])) rfl rfl (hb hby d6_29) _ ?_
    exact k
  obtain ⟨_, _, ⟨T363, L363, k363, n363⟩, -, X363, ⟨Lc363, hQ363, l363, y363, z363⟩, st363⟩ := Jvm.LawKit.callS X361 hx (y := (⟨"com/example/tandemcab/tandemcab/NodeQueue", "before", "(DDDD)Z"⟩ : MethodName)) hown (mvT hZ (w_46 hw)) (mvT hZ (w_47 hw)) (mvT hZ (w_2 hw)) (mvT hZ (w_48 hw)) (by decide) (backOf (W := 0) (rm8 l Z a0 hw [] x1 x2 y1 y2 h0 n0 Z0 ) hZ (w_48 hw) (w_2 hw) (by decide) (by decide)) (g := (mkF m 30 #[.val (.ref a1), .val (.int 0), .val (.double x1), .second, .val (.double x2), .second, .val (.int 2), .val (.int 0)] [(.double y2), (.double y1), (.double x2), (.double x1)])) rfl (by rw [hml]; rfl) (argsL := [(.double x1), (.double x2), (.double y1), (.double y2)]) (rest := []) (lenOf pd_4 rfl) rfl (by show 2 * 0 + _ ≤ _; exact Nat.le_of_eq rfl) (hb hby d6_30) (fun _ _ => ⟨rfl, e361, (by decide : 0 + 0 ≤ _), (by decide : 0 + 0 ≤ _)⟩)
  dsimp only [Pt.U, Pt.locs, Pt.cells, Pt.slots] at X363 l363 y363 z363 st363 hQ363
  subst l363 y363 z363
  obtain ⟨rfl, Nq363, Kq363⟩ := hQ363
  replace NF := Fr.app NF Nq363
  clear Nq363
  refine WP.st st363 ?_
  clear st363
  replace Kq363 := Kq363.trans (rfl : h0 = h0)
  show WP p.tables e below _ T363 (mkF m 33 #[.val (.ref a1), .val (.int 0), .val (.double x1), .second, .val (.double x2), .second, .val (.int 2), .val (.int 0)] [(.int (own_before x1 x2 y1 y2))])
  refine WP.st (T' := T363) (f' := (mkF m 44 #[.val (.ref a1), .val (.int 0), .val (.double x1), .second, .val (.double x2), .second, .val (.int 2), .val (.int 0)] [(.int 2), (.int 0), (.ref a1)])) (fun t k => ?_) ?_
  · refine XS.ifYes X363.here hx rfl (pc0 := 33) (pc' := 39) rfl (hb hby d6_33) rfl ((if0 _ _).trans (feq hbef).2) (by decide) (by decide) ?_
    refine XS.aloadN X363.here hx rfl (hb hby d6_39) rfl rfl ?_
    refine XS.iload X363.here hx rfl (hb hby d6_40) rfl ?_
    refine XS.iload X363.here hx rfl (hb hby d6_42) rfl ?_
    exact k
  obtain ⟨cq364, q364, q364'⟩ := E_a1.cell
  obtain ⟨_, _, ⟨T364, L364, k364, n364⟩, -, X364, ⟨Lc364, hQ364, l364, y364, z364⟩, st364⟩ := X363.privateBack hx (y := (⟨"com/example/tandemcab/tandemcab/NodeQueue", "move", "(II)V"⟩ : MethodName)) hown (mvT hZ (w_49 hw)) (mvT hZ (w_50 hw)) (ownSel (y := (⟨"com/example/tandemcab/tandemcab/NodeQueue", "move", "(II)V"⟩ : MethodName)) (mvT hZ (w_22 hw)) rfl (Cond.privateMethod_at (mvP hZ (w_51 hw) (args := #[]))) (mvT hZ (w_50 hw)) (by decide)) (Cond.privateMethod_at (mvP hZ (w_51 hw) (args := #[]))) (mvT hZ (w_52 hw)) (by decide) (backOf (W := 0) (rm9t37 l Z a0 hw [] a1 tn ts tm tp kn ks km kp nd1 nd2 y1 s1 s2 y2 m1 m2 p0 p1 p2 u_size h0 n0 Z0 E_a1 F_a1_nodes F_a1_seconds F_a1_metres F_a1_position F_a1_size V_tn V_ts V_tm V_tp g_a1 g_tn g_ts g_tm g_tp ne_a1_tn ne_a1_ts ne_a1_tm ne_a1_tp ne_tn_ts ne_tn_tm ne_tn_tp ne_ts_tm ne_ts_tp ne_tm_tp) hZ (w_52 hw) (w_2 hw) (by decide) (by decide)) (g := (mkF m 44 #[.val (.ref a1), .val (.int 0), .val (.double x1), .second, .val (.double x2), .second, .val (.int 2), .val (.int 0)] [(.int 2), (.int 0), (.ref a1)])) rfl (by rw [hml]; rfl) (Steps.refl _) (a := a1) (by rw [Kq363]; exact q364) q364' (argsL := [(.int 0), (.int 2)]) (rest := []) (lenOf pd_5 rfl) rfl (by show 2 * 0 + _ ≤ _; exact Nat.le_of_eq rfl) (hb hby d6_44) (fun _ _ => ⟨rfl, Kq363, (by decide : 0 + 0 ≤ _), (by decide : 0 + 0 ≤ _)⟩)
  dsimp only [Pt.U, Pt.locs, Pt.cells, Pt.slots] at X364 l364 y364 z364 st364 hQ364
  subst l364 y364 z364
  obtain ⟨rfl, Nq364, Kq364, nF364_a1_nodes, nF364_a1_seconds, nF364_a1_metres, nF364_a1_position, nF364_a1_size, nA364_tn, nA364_ts, nA364_tm, nA364_tp⟩ := hQ364
  replace NF := Fr.app NF Nq364
  clear Nq364
  refine WP.tr st364 ?_
  clear st364
  obtain ⟨h364, e364⟩ : ∃ h, T364.heap = h := ⟨_, rfl⟩
  rw [e364] at Kq364 nF364_a1_nodes nF364_a1_seconds nF364_a1_metres nF364_a1_position nF364_a1_size nA364_tn nA364_ts nA364_tm nA364_tp
  replace E_a1 := E_a1.keep Kq364
  clear F_a1_nodes
  clear F_a1_seconds
  clear F_a1_metres
  clear F_a1_position
  clear F_a1_size
  clear V_tn
  clear V_ts
  clear V_tm
  clear V_tp
  replace Z0 := Nat.le_trans Z0 Kq364.1
  replace KP := KP.trans Kq364 (allS (Or.inl (List.mem_of_getElem? (i := 0) rfl)) (allS (Or.inl (List.mem_of_getElem? (i := 1) rfl)) (allS (Or.inl (List.mem_of_getElem? (i := 2) rfl)) (allS (Or.inl (List.mem_of_getElem? (i := 3) rfl)) (allS (Or.inl (List.mem_of_getElem? (i := 4) rfl)) all0)))))
  clear Kq364
  have F_a1_nodes := nF364_a1_nodes
  clear nF364_a1_nodes
  have F_a1_seconds := nF364_a1_seconds
  clear nF364_a1_seconds
  have F_a1_metres := nF364_a1_metres
  clear nF364_a1_metres
  have F_a1_position := nF364_a1_position
  clear nF364_a1_position
  have F_a1_size := nF364_a1_size
  clear nF364_a1_size
  have V_tn := nA364_tn
  clear nA364_tn
  have V_ts := nA364_ts
  clear nA364_ts
  have V_tm := nA364_tm
  clear nA364_tm
  have V_tp := nA364_tp
  clear nA364_tp
  show WP p.tables e below _ T364 (mkF m 47 #[.val (.ref a1), .val (.int 0), .val (.double x1), .second, .val (.double x2), .second, .val (.int 2), .val (.int 0)] [])
  refine WP.st (T' := T364) (f' := (mkF m 61 #[.val (.ref a1), .val (.int 0), .val (.double x1), .second, .val (.double x2), .second, .val (.int 0), .val (.int 0)] [(.int 0), (.double x2), (.double x1), (.int 0), (.ref a1)])) (fun t k => ?_) ?_
  · refine XS.iload X364.here hx rfl (hb hby d6_47) rfl ?_
    refine XS.istore X364.here hx rfl (hb hby d6_49) rfl (l' := #[.val (.ref a1), .val (.int 0), .val (.double x1), .second, .val (.double x2), .second, .val (.int 0), .val (.int 0)]) rfl ?_
    refine XS.goto X364.here hx rfl (pc0 := 51) (pc' := 0) rfl (hb hby d6_51) (by decide) (by decide) ?_
    refine XS.iload X364.here hx rfl (hb hby d6_0) rfl ?_
    refine XS.ifYes X364.here hx rfl (pc0 := 2) (pc' := 54) rfl (hb hby d6_2) rfl ((if0 _ _).trans (flt (by decide : ¬ ((0 : Int32) < (0 : Int32)))).2.2.2) (by decide) (by decide) ?_
    refine XS.aloadN X364.here hx rfl (hb hby d6_54) rfl rfl ?_
    refine XS.iloadN X364.here hx rfl (hb hby d6_55) rfl ?_
    refine XS.dloadN X364.here hx rfl (hb hby d6_56) rfl ?_
    show Steps p.tables e below (T364.setTop (mkF m 57 #[.val (.ref a1), .val (.int 0), .val (.double x1), .second, .val (.double x2), .second, .val (.int 0), .val (.int 0)] [(.double x1), (.int 0), (.ref a1)])) t
    refine XS.dload X364.here hx rfl (hb hby d6_57) rfl ?_
    refine XS.iload X364.here hx rfl (hb hby d6_59) rfl ?_
    exact k
  obtain ⟨cq365, q365, q365'⟩ := E_a1.cell
  obtain ⟨_, _, ⟨T365, L365, k365, n365⟩, -, X365, ⟨Lc365, hQ365, l365, y365, z365⟩, st365⟩ := X364.privateBack hx (y := (⟨"com/example/tandemcab/tandemcab/NodeQueue", "place", "(IDDI)V"⟩ : MethodName)) hown (mvT hZ (w_41 hw)) (mvT hZ (w_42 hw)) (ownSel (y := (⟨"com/example/tandemcab/tandemcab/NodeQueue", "place", "(IDDI)V"⟩ : MethodName)) (mvT hZ (w_22 hw)) rfl (Cond.privateMethod_at (mvP hZ (w_43 hw) (args := #[]))) (mvT hZ (w_42 hw)) (by decide)) (Cond.privateMethod_at (mvP hZ (w_43 hw) (args := #[]))) (mvT hZ (w_44 hw)) (by decide) (backOf (W := 0) (rm7t2 l Z a0 hw [] a1 x1 x2 tn ts tm tp kn ks km kp (.int 2) nd1 (.int 2) (.double y1) s1 (.double y1) (.double y2) m1 (.double y2) p0 p1 (.int 3) u_size h364 n0 Z0 E_a1 F_a1_nodes F_a1_seconds F_a1_metres F_a1_position F_a1_size V_tn V_ts V_tm V_tp g_a1 g_tn g_ts g_tm g_tp ne_a1_tn ne_a1_ts ne_a1_tm ne_a1_tp ne_tn_ts ne_tn_tm ne_tn_tp ne_ts_tm ne_ts_tp ne_tm_tp) hZ (w_44 hw) (w_2 hw) (by decide) (by decide)) (g := (mkF m 61 #[.val (.ref a1), .val (.int 0), .val (.double x1), .second, .val (.double x2), .second, .val (.int 0), .val (.int 0)] [(.int 0), (.double x2), (.double x1), (.int 0), (.ref a1)])) rfl (by rw [hml]; rfl) (Steps.refl _) (a := a1) (by rw [e364]; exact q365) q365' (argsL := [(.int 0), (.double x1), (.double x2), (.int 0)]) (rest := []) (lenOf pd_2 rfl) rfl (by show 2 * 0 + _ ≤ _; exact Nat.le_of_eq rfl) (hb hby d6_61) (fun _ _ => ⟨rfl, e364, (by decide : 0 + 0 ≤ _), (by decide : 0 + 0 ≤ _)⟩)
  dsimp only [Pt.U, Pt.locs, Pt.cells, Pt.slots] at X365 l365 y365 z365 st365 hQ365
  subst l365 y365 z365
  obtain ⟨rfl, Nq365, Kq365, nF365_a1_nodes, nF365_a1_seconds, nF365_a1_metres, nF365_a1_position, nF365_a1_size, nA365_tn, nA365_ts, nA365_tm, nA365_tp⟩ := hQ365
  replace NF := Fr.app NF Nq365
  clear Nq365
  refine WP.tr st365 ?_
  clear st365
  obtain ⟨h365, e365⟩ : ∃ h, T365.heap = h := ⟨_, rfl⟩
  rw [e365] at Kq365 nF365_a1_nodes nF365_a1_seconds nF365_a1_metres nF365_a1_position nF365_a1_size nA365_tn nA365_ts nA365_tm nA365_tp
  replace E_a1 := E_a1.keep Kq365
  clear F_a1_nodes
  clear F_a1_seconds
  clear F_a1_metres
  clear F_a1_position
  clear F_a1_size
  clear V_tn
  clear V_ts
  clear V_tm
  clear V_tp
  replace Z0 := Nat.le_trans Z0 Kq365.1
  replace KP := KP.trans Kq365 (allS (Or.inl (List.mem_of_getElem? (i := 0) rfl)) (allS (Or.inl (List.mem_of_getElem? (i := 1) rfl)) (allS (Or.inl (List.mem_of_getElem? (i := 2) rfl)) (allS (Or.inl (List.mem_of_getElem? (i := 3) rfl)) (allS (Or.inl (List.mem_of_getElem? (i := 4) rfl)) all0)))))
  clear Kq365
  have F_a1_nodes := nF365_a1_nodes
  clear nF365_a1_nodes
  have F_a1_seconds := nF365_a1_seconds
  clear nF365_a1_seconds
  have F_a1_metres := nF365_a1_metres
  clear nF365_a1_metres
  have F_a1_position := nF365_a1_position
  clear nF365_a1_position
  have F_a1_size := nF365_a1_size
  clear nF365_a1_size
  have V_tn := nA365_tn
  clear nA365_tn
  have V_ts := nA365_ts
  clear nA365_ts
  have V_tm := nA365_tm
  clear nA365_tm
  have V_tp := nA365_tp
  clear nA365_tp
  show WP p.tables e below _ T365 (mkF m 64 #[.val (.ref a1), .val (.int 0), .val (.double x1), .second, .val (.double x2), .second, .val (.int 0), .val (.int 0)] [])
  subst hG
  obtain ⟨fs, hr, hrun, hended, hW, hsame⟩ := X365.leave (v := none) (fun _ => rfl)
  refine WP.fin ⟨_, _, ?_, hrun, hended, _, _, rfl, ?_, ⟨_, rfl⟩, hW, hsame.mono (by decide) (by decide)⟩
  · exact X365.returnOut hx Bd.returns (hb hby d6_64) hr
  · show Q6t36 Z a1 x1 x2 tn ts tm tp kn ks km kp nd1 nd2 y1 s1 s2 y2 m1 m2 p0 p1 p2 u_size h0 n0 _ T365.heap _
    rw [e365]
    exact ⟨rfl, NF, KP, F_a1_nodes, F_a1_seconds, F_a1_metres, F_a1_position, F_a1_size, V_tn, V_ts, V_tm, V_tp⟩
theorem ef_5t35 (m : MethodId) (z0 : Addr) (z2 : UInt64) (z3 : UInt64) : entryFrame m #[(.ref z0), (.int 0), (.double z2), (.double z3)] 7 = mkF m 0 #[.val (.ref z0), .val (.int 0), .val (.double z2), .second, .val (.double z3), .second, .unset] [] := by
  all_goals first | (simp [entryFrame, mkF, argsToLocals, Value.category]; done) | rfl
def Q5t35 (Z : State) (a1 : Addr) (x1 : UInt64) (x2 : UInt64) (tn : Addr) (ts : Addr) (tm : Addr) (tp : Addr) (kn : ClassId) (ks : ClassId) (km : ClassId) (kp : ClassId) (nd1 : Value) (nd2 : Value) (y1 : UInt64) (s1 : Value) (s2 : Value) (y2 : UInt64) (m1 : Value) (m2 : Value) (p1 : Value) (p2 : Value) (h0 : Heap) (n0 : Nat) (v : Option Value) (h : Heap) (L : List Loc) : Prop := v = none ∧ Fr n0 L ∧ Keep h0 h [a1, tn, ts, tm, tp] ∧ Fld Z h a1 "com/example/tandemcab/tandemcab/NodeQueue" "nodes" "[I" (.ref tn) ∧ Fld Z h a1 "com/example/tandemcab/tandemcab/NodeQueue" "seconds" "[D" (.ref ts) ∧ Fld Z h a1 "com/example/tandemcab/tandemcab/NodeQueue" "metres" "[D" (.ref tm) ∧ Fld Z h a1 "com/example/tandemcab/tandemcab/NodeQueue" "position" "[I" (.ref tp) ∧ Fld Z h a1 "com/example/tandemcab/tandemcab/NodeQueue" "size" "I" (.int 3) ∧ (Arv Z h tn kn .int (3 : Int32) [(.int 0), nd1, (.int 2)] (.int 0)) ∧ (Arv Z h ts ks .double (3 : Int32) [(.double x1), s1, (.double y1)] (.double 0)) ∧ (Arv Z h tm km .double (3 : Int32) [(.double x2), m1, (.double y2)] (.double 0)) ∧ (Arv Z h tp kp .int (3 : Int32) [(.int 1), p1, (.int 3)] (.int 0))
set_option maxRecDepth 65536 in
set_option maxHeartbeats 40000000 in
theorem rm5t35 (l : Launch) (Z : State) (a0 : Array Value) (hw : ∀ d ∈ tables_1, d.before a0 Z = true) (wsC : List Jvm.Cond) (a1 : Addr) (x1 : UInt64) (x2 : UInt64) (tn : Addr) (ts : Addr) (tm : Addr) (tp : Addr) (kn : ClassId) (ks : ClassId) (km : ClassId) (kp : ClassId) (nd1 : Value) (nd2 : Value) (y1 : UInt64) (s1 : Value) (s2 : Value) (y2 : UInt64) (m1 : Value) (m2 : Value) (p1 : Value) (p2 : Value) (h0 : Heap) (n0 : Nat) (Z0 : n0 ≤ h0.size) (E_a1 : Exa Z h0 a1 "com/example/tandemcab/tandemcab/NodeQueue") (F_a1_nodes : Fld Z h0 a1 "com/example/tandemcab/tandemcab/NodeQueue" "nodes" "[I" (.ref tn)) (F_a1_seconds : Fld Z h0 a1 "com/example/tandemcab/tandemcab/NodeQueue" "seconds" "[D" (.ref ts)) (F_a1_metres : Fld Z h0 a1 "com/example/tandemcab/tandemcab/NodeQueue" "metres" "[D" (.ref tm)) (F_a1_position : Fld Z h0 a1 "com/example/tandemcab/tandemcab/NodeQueue" "position" "[I" (.ref tp)) (F_a1_size : Fld Z h0 a1 "com/example/tandemcab/tandemcab/NodeQueue" "size" "I" (.int 2)) (V_tn : Arv Z h0 tn kn .int (3 : Int32) [(.int 2), nd1, nd2] (.int 0)) (V_ts : Arv Z h0 ts ks .double (3 : Int32) [(.double y1), s1, s2] (.double 0)) (V_tm : Arv Z h0 tm km .double (3 : Int32) [(.double y2), m1, m2] (.double 0)) (V_tp : Arv Z h0 tp kp .int (3 : Int32) [(.int 0), p1, p2] (.int 0)) (g_a1 : n0 ≤ a1) (g_tn : n0 ≤ tn) (g_ts : n0 ≤ ts) (g_tm : n0 ≤ tm) (g_tp : n0 ≤ tp) (ne_a1_tn : a1 ≠ tn) (ne_a1_ts : a1 ≠ ts) (ne_a1_tm : a1 ≠ tm) (ne_a1_tp : a1 ≠ tp) (ne_tn_ts : tn ≠ ts) (ne_tn_tm : tn ≠ tm) (ne_tn_tp : tn ≠ tp) (ne_ts_tm : ts ≠ tm) (ne_ts_tp : ts ≠ tp) (ne_tm_tp : tm ≠ tp) (hbef : ¬ ((own_before x1 x2 y1 y2) = (0 : Int32))) :
    MetFree l (⟨"com/example/tandemcab/tandemcab/NodeQueue", "offer", "(IDD)V"⟩ : MethodName) (head1 (Jvm.Cond.code (⟨"com/example/tandemcab/tandemcab/NodeQueue", "offer", "(IDD)V"⟩ : MethodName) prog_49_method_5_code 7 none :: wsC) ({ frames := 3, cells := 0, slots := 0, locals := 51 } : Room)) (fun a U => a = #[(.ref a1), (.int 0), (.double x1), (.double x2)] ∧ Z.Warmed39 U.vm ∧ U.heap = h0) (fun _ _ _ _ _ => True) (fun _ U o U' => ∃ v L, o = .returned v ∧ Q5t35 Z a1 x1 x2 tn ts tm tp kn ks km kp nd1 nd2 y1 s1 s2 y2 m1 m2 p1 p2 h0 n0 v U'.heap L ∧ FrameEnd U o U' L ({ frames := 3, cells := 0, slots := 0, locals := 51 } : Room).cells ({ frames := 3, cells := 0, slots := 0, locals := 51 } : Room).slots) := by
  refine MetFree.of_bodySF (plainFor_of_name pn_0) hisR ?_
  intro p e s m args below meth c s₁ Bd hml0 hP hK
  obtain ⟨rfl, hZ, hh⟩ := hP
  have hx := Bd.exec
  have hby := Bd.bytes
  have hml : c.maxLocals = 7 := hml0
  have hown : s.vm.findClass "com/example/tandemcab/tandemcab/NodeQueue" = some m.cls := findClass_of_methodNamed Bd.named
  have hnm := (name_of_methodNamed Bd.named Bd.method).1
  have X0 : Stand p l e ({ frames := 3, cells := 0, slots := 0, locals := 51 } : Room) s m #[(.ref a1), (.int 0), (.double x1), (.double x2)] below meth c s₁ [] 0 0 := Stand.of_body Bd
  have e0 : s₁.heap = h0 := by rw [← hh, Bd.state]; rfl
  have NF := Fr.nil n0
  have KP : Keep h0 h0 [a1, tn, ts, tm, tp] := Keep.refl h0 _
  refine WP.go ?_
  refine WP.cast (ef_5t35 m a1 x1 x2) ?_
  refine WP.name ?_
  intro G hG
  refine WP.st (T' := s₁) (f' := (mkF m 1 #[.val (.ref a1), .val (.int 0), .val (.double x1), .second, .val (.double x2), .second, .unset] [(.ref a1)])) (fun t k => ?_) ?_
  · refine XS.aloadN X0.here hx rfl (hb hby d5_0) rfl rfl ?_
    exact k
  obtain ⟨T366, X366, e366, st366⟩ := getF X0 hx hZ hown (host := "") (Or.inl (w_17 hw)) Via.refl e0 F_a1_position (g := (mkF m 1 #[.val (.ref a1), .val (.int 0), .val (.double x1), .second, .val (.double x2), .second, .unset] [(.ref a1)])) rfl rfl (hb hby d5_1)
  refine WP.st st366 ?_
  clear st366
  show WP p.tables e below _ T366 (mkF m 4 #[.val (.ref a1), .val (.int 0), .val (.double x1), .second, .val (.double x2), .second, .unset] [(.ref tp)])
  refine WP.st (T' := T366) (f' := (mkF m 5 #[.val (.ref a1), .val (.int 0), .val (.double x1), .second, .val (.double x2), .second, .unset] [(.int 0), (.ref tp)])) (fun t k => ?_) ?_
  · refine XS.iloadN X366.here hx rfl (hb hby d5_4) rfl ?_
    exact k
  obtain ⟨cl367, Ar367, hin367, hat367, -⟩ := V_tp.rd (j := (0 : Int32)) ⟨by decide, by decide⟩
  replace hat367 : cl367.slots[((0 : Int32)).toNatClampNeg]? = some (.int 0) := hat367
  refine WP.st (T' := T366) (f' := (mkF m 8 #[.val (.ref a1), .val (.int 0), .val (.double x1), .second, .val (.double x2), .second, .unset] [(.int ((0 : Int32) - (1 : Int32)))])) (fun t k => ?_) ?_
  · refine X366.iaload hx (j := (0 : Int32)) (v := (.int 0)) (by rw [e366]; exact Ar367.1) (State.isArrayOf_alike hZ.alike Ar367.2.1) Ar367.2.2 hin367 hat367 (g := (mkF m 5 #[.val (.ref a1), .val (.int 0), .val (.double x1), .second, .val (.double x2), .second, .unset] [(.int 0), (.ref tp)])) rfl rfl (hb hby d5_5) _ ?_
    refine XS.iconst X366.here hx rfl (hb hby d5_6) ?_
    refine XS.isub X366.here hx rfl (hb hby d5_7) rfl ?_
    exact k
  rw [show ((0 : Int32) - (1 : Int32)) = (-1 : Int32) from by decide]
  show WP p.tables e below _ T366 (mkF m 8 #[.val (.ref a1), .val (.int 0), .val (.double x1), .second, .val (.double x2), .second, .unset] [(.int (-1))])
  refine WP.st (T' := T366) (f' := (mkF m 22 #[.val (.ref a1), .val (.int 0), .val (.double x1), .second, .val (.double x2), .second, .val (.int (-1))] [(.ref a1), (.ref a1), (.double x2), (.double x1), (.int 0), (.ref a1)])) (fun t k => ?_) ?_
  · refine XS.istore X366.here hx rfl (hb hby d5_8) rfl (l' := #[.val (.ref a1), .val (.int 0), .val (.double x1), .second, .val (.double x2), .second, .val (.int (-1))]) rfl ?_
    refine XS.iload X366.here hx rfl (hb hby d5_10) rfl ?_
    refine XS.ifNo X366.here hx rfl (hb hby d5_12) rfl ((if0 _ _).trans (tlt (by decide : (-1 : Int32) < (0 : Int32))).2.1) ?_
    refine XS.aloadN X366.here hx rfl (hb hby d5_15) rfl rfl ?_
    refine XS.iloadN X366.here hx rfl (hb hby d5_16) rfl ?_
    refine XS.dloadN X366.here hx rfl (hb hby d5_17) rfl ?_
    refine XS.dload X366.here hx rfl (hb hby d5_18) rfl ?_
    refine XS.aloadN X366.here hx rfl (hb hby d5_20) rfl rfl ?_
    show Steps p.tables e below (T366.setTop (mkF m 21 #[.val (.ref a1), .val (.int 0), .val (.double x1), .second, .val (.double x2), .second, .val (.int (-1))] [(.ref a1), (.double x2), (.double x1), (.int 0), (.ref a1)])) t
    refine XS.dup X366.here hx rfl (hb hby d5_21) rfl rfl ?_
    exact k
  obtain ⟨T368, X368, e368, st368⟩ := getF X366 hx hZ hown (host := "") (Or.inl (w_24 hw)) Via.refl e366 F_a1_size (g := (mkF m 22 #[.val (.ref a1), .val (.int 0), .val (.double x1), .second, .val (.double x2), .second, .val (.int (-1))] [(.ref a1), (.ref a1), (.double x2), (.double x1), (.int 0), (.ref a1)])) rfl rfl (hb hby d5_22)
  refine WP.st st368 ?_
  clear st368
  show WP p.tables e below _ T368 (mkF m 25 #[.val (.ref a1), .val (.int 0), .val (.double x1), .second, .val (.double x2), .second, .val (.int (-1))] [(.int 2), (.ref a1), (.double x2), (.double x1), (.int 0), (.ref a1)])
  refine WP.st (T' := T368) (f' := (mkF m 28 #[.val (.ref a1), .val (.int 0), .val (.double x1), .second, .val (.double x2), .second, .val (.int (-1))] [(.int ((2 : Int32) + (1 : Int32))), (.ref a1), (.int 2), (.double x2), (.double x1), (.int 0), (.ref a1)])) (fun t k => ?_) ?_
  · refine XS.dupX1 X368.here hx rfl (hb hby d5_25) rfl rfl rfl ?_
    refine XS.iconst X368.here hx rfl (hb hby d5_26) ?_
    refine XS.iadd X368.here hx rfl (hb hby d5_27) rfl ?_
    exact k
  rw [show ((2 : Int32) + (1 : Int32)) = (3 : Int32) from by decide]
  show WP p.tables e below _ T368 (mkF m 28 #[.val (.ref a1), .val (.int 0), .val (.double x1), .second, .val (.double x2), .second, .val (.int (-1))] [(.int 3), (.ref a1), (.int 2), (.double x2), (.double x1), (.int 0), (.ref a1)])
  obtain ⟨T369, h369, X369, e369, W369, st369⟩ := putF X368 hx hZ hown (host := "") (Or.inl (w_24 hw)) Via.refl e368 F_a1_size E_a1 (Or.inl (w_25 hw)) (w_1 hw) (ty := .int) (by decide) rfl rfl (g := (mkF m 28 #[.val (.ref a1), .val (.int 0), .val (.double x1), .second, .val (.double x2), .second, .val (.int (-1))] [(.int 3), (.ref a1), (.int 2), (.double x2), (.double x1), (.int 0), (.ref a1)])) rfl rfl (hb hby d5_28)
  refine WP.st st369 ?_
  clear st369
  replace E_a1 := E_a1.wr W369
  replace F_a1_nodes := F_a1_nodes.other W369 (Or.inr (sn_16 hw))
  replace F_a1_seconds := F_a1_seconds.other W369 (Or.inr (sn_17 hw))
  replace F_a1_metres := F_a1_metres.other W369 (Or.inr (sn_18 hw))
  replace F_a1_position := F_a1_position.other W369 (Or.inr (sn_19 hw))
  replace F_a1_size := F_a1_size.same W369
  replace V_tn := V_tn.other W369 (Ne.symm ne_a1_tn)
  replace V_ts := V_ts.other W369 (Ne.symm ne_a1_ts)
  replace V_tm := V_tm.other W369 (Ne.symm ne_a1_tm)
  replace V_tp := V_tp.other W369 (Ne.symm ne_a1_tp)
  replace Z0 := Nat.le_trans Z0 (Keep.of_wr W369).1
  replace KP := KP.wr W369 (Or.inl (List.mem_of_getElem? (i := 0) rfl))
  replace NF := Fr.snoc X369 NF g_a1
  clear W369
  show WP p.tables e below _ T369 (mkF m 31 #[.val (.ref a1), .val (.int 0), .val (.double x1), .second, .val (.double x2), .second, .val (.int (-1))] [(.int 2), (.double x2), (.double x1), (.int 0), (.ref a1)])
  obtain ⟨cq370, q370, q370'⟩ := E_a1.cell
  obtain ⟨_, _, ⟨T370, L370, k370, n370⟩, -, X370, ⟨Lc370, hQ370, l370, y370, z370⟩, st370⟩ := X369.privateBack hx (y := (⟨"com/example/tandemcab/tandemcab/NodeQueue", "up", "(IDDI)V"⟩ : MethodName)) hown (mvT hZ (w_37 hw)) (mvT hZ (w_38 hw)) (ownSel (y := (⟨"com/example/tandemcab/tandemcab/NodeQueue", "up", "(IDDI)V"⟩ : MethodName)) (mvT hZ (w_22 hw)) rfl (Cond.privateMethod_at (mvP hZ (w_39 hw) (args := #[]))) (mvT hZ (w_38 hw)) (by decide)) (Cond.privateMethod_at (mvP hZ (w_39 hw) (args := #[]))) (mvT hZ (w_40 hw)) (by decide) (backOf (W := 0) (rm6t36 l Z a0 hw [] a1 x1 x2 tn ts tm tp kn ks km kp nd1 nd2 y1 s1 s2 y2 m1 m2 (.int 0) p1 p2 (3 : Int32) h369 n0 Z0 E_a1 F_a1_nodes F_a1_seconds F_a1_metres F_a1_position F_a1_size V_tn V_ts V_tm V_tp g_a1 g_tn g_ts g_tm g_tp ne_a1_tn ne_a1_ts ne_a1_tm ne_a1_tp ne_tn_ts ne_tn_tm ne_tn_tp ne_ts_tm ne_ts_tp ne_tm_tp hbef) hZ (w_40 hw) (w_2 hw) (by decide) (by decide)) (g := (mkF m 31 #[.val (.ref a1), .val (.int 0), .val (.double x1), .second, .val (.double x2), .second, .val (.int (-1))] [(.int 2), (.double x2), (.double x1), (.int 0), (.ref a1)])) rfl (by rw [hml]; rfl) (Steps.refl _) (a := a1) (by rw [e369]; exact q370) q370' (argsL := [(.int 0), (.double x1), (.double x2), (.int 2)]) (rest := []) (lenOf pd_2 rfl) rfl (by show 2 * 0 + _ ≤ _; exact Nat.le_of_eq rfl) (hb hby d5_31) (fun _ _ => ⟨rfl, e369, (by decide : 0 + 0 ≤ _), (by decide : 0 + 0 ≤ _)⟩)
  dsimp only [Pt.U, Pt.locs, Pt.cells, Pt.slots] at X370 l370 y370 z370 st370 hQ370
  subst l370 y370 z370
  obtain ⟨rfl, Nq370, Kq370, nF370_a1_nodes, nF370_a1_seconds, nF370_a1_metres, nF370_a1_position, nF370_a1_size, nA370_tn, nA370_ts, nA370_tm, nA370_tp⟩ := hQ370
  replace NF := Fr.app NF Nq370
  clear Nq370
  refine WP.tr st370 ?_
  clear st370
  obtain ⟨h370, e370⟩ : ∃ h, T370.heap = h := ⟨_, rfl⟩
  rw [e370] at Kq370 nF370_a1_nodes nF370_a1_seconds nF370_a1_metres nF370_a1_position nF370_a1_size nA370_tn nA370_ts nA370_tm nA370_tp
  replace E_a1 := E_a1.keep Kq370
  clear F_a1_nodes
  clear F_a1_seconds
  clear F_a1_metres
  clear F_a1_position
  clear F_a1_size
  clear V_tn
  clear V_ts
  clear V_tm
  clear V_tp
  replace Z0 := Nat.le_trans Z0 Kq370.1
  replace KP := KP.trans Kq370 (allS (Or.inl (List.mem_of_getElem? (i := 0) rfl)) (allS (Or.inl (List.mem_of_getElem? (i := 1) rfl)) (allS (Or.inl (List.mem_of_getElem? (i := 2) rfl)) (allS (Or.inl (List.mem_of_getElem? (i := 3) rfl)) (allS (Or.inl (List.mem_of_getElem? (i := 4) rfl)) all0)))))
  clear Kq370
  have F_a1_nodes := nF370_a1_nodes
  clear nF370_a1_nodes
  have F_a1_seconds := nF370_a1_seconds
  clear nF370_a1_seconds
  have F_a1_metres := nF370_a1_metres
  clear nF370_a1_metres
  have F_a1_position := nF370_a1_position
  clear nF370_a1_position
  have F_a1_size := nF370_a1_size
  clear nF370_a1_size
  have V_tn := nA370_tn
  clear nA370_tn
  have V_ts := nA370_ts
  clear nA370_ts
  have V_tm := nA370_tm
  clear nA370_tm
  have V_tp := nA370_tp
  clear nA370_tp
  show WP p.tables e below _ T370 (mkF m 34 #[.val (.ref a1), .val (.int 0), .val (.double x1), .second, .val (.double x2), .second, .val (.int (-1))] [])
  refine WP.st (T' := T370) (f' := (mkF m 83 #[.val (.ref a1), .val (.int 0), .val (.double x1), .second, .val (.double x2), .second, .val (.int (-1))] [])) (fun t k => ?_) ?_
  · refine XS.goto X370.here hx rfl (pc0 := 34) (pc' := 83) rfl (hb hby d5_34) (by decide) (by decide) ?_
    exact k
  subst hG
  obtain ⟨fs, hr, hrun, hended, hW, hsame⟩ := X370.leave (v := none) (fun _ => rfl)
  refine WP.fin ⟨_, _, ?_, hrun, hended, _, _, rfl, ?_, ⟨_, rfl⟩, hW, hsame.mono (by decide) (by decide)⟩
  · exact X370.returnOut hx Bd.returns (hb hby d5_83) hr
  · show Q5t35 Z a1 x1 x2 tn ts tm tp kn ks km kp nd1 nd2 y1 s1 s2 y2 m1 m2 p1 p2 h0 n0 _ T370.heap _
    rw [e370]
    exact ⟨rfl, NF, KP, F_a1_nodes, F_a1_seconds, F_a1_metres, F_a1_position, F_a1_size, V_tn, V_ts, V_tm, V_tp⟩
theorem ef_3t39 (m : MethodId) (z0 : Addr) : entryFrame m #[(.ref z0)] 2 = mkF m 0 #[.val (.ref z0), .unset] [] := by
  all_goals first | (simp [entryFrame, mkF, argsToLocals, Value.category]; done) | rfl
def Q3t39 (Z : State) (a1 : Addr) (tn : Addr) (ts : Addr) (tm : Addr) (tp : Addr) (kn : ClassId) (ks : ClassId) (km : ClassId) (kp : ClassId) (s0 : Value) (s1 : Value) (s2 : Value) (m0 : Value) (m1 : Value) (m2 : Value) (p0 : Value) (p1 : Value) (p2 : Value) (h0 : Heap) (n0 : Nat) (v : Option Value) (h : Heap) (L : List Loc) : Prop := v = none ∧ Fr n0 L ∧ Keep h0 h [a1, tn, ts, tm, tp] ∧ Fld Z h a1 "com/example/tandemcab/tandemcab/NodeQueue" "nodes" "[I" (.ref tn) ∧ Fld Z h a1 "com/example/tandemcab/tandemcab/NodeQueue" "seconds" "[D" (.ref ts) ∧ Fld Z h a1 "com/example/tandemcab/tandemcab/NodeQueue" "metres" "[D" (.ref tm) ∧ Fld Z h a1 "com/example/tandemcab/tandemcab/NodeQueue" "position" "[I" (.ref tp) ∧ Fld Z h a1 "com/example/tandemcab/tandemcab/NodeQueue" "size" "I" (.int 0) ∧ (Arv Z h tn kn .int (3 : Int32) [(.int 0), (.int 1), (.int 2)] (.int 0)) ∧ (Arv Z h ts ks .double (3 : Int32) [s0, s1, s2] (.double 0)) ∧ (Arv Z h tm km .double (3 : Int32) [m0, m1, m2] (.double 0)) ∧ (Arv Z h tp kp .int (3 : Int32) [(.int 0), (.int 0), (.int 0)] (.int 0))
set_option maxRecDepth 65536 in
set_option maxHeartbeats 40000000 in
theorem rm3t39 (l : Launch) (Z : State) (a0 : Array Value) (hw : ∀ d ∈ tables_1, d.before a0 Z = true) (wsC : List Jvm.Cond) (a1 : Addr) (tn : Addr) (ts : Addr) (tm : Addr) (tp : Addr) (kn : ClassId) (ks : ClassId) (km : ClassId) (kp : ClassId) (s0 : Value) (s1 : Value) (s2 : Value) (m0 : Value) (m1 : Value) (m2 : Value) (p0 : Value) (p1 : Value) (p2 : Value) (h0 : Heap) (n0 : Nat) (Z0 : n0 ≤ h0.size) (E_a1 : Exa Z h0 a1 "com/example/tandemcab/tandemcab/NodeQueue") (F_a1_nodes : Fld Z h0 a1 "com/example/tandemcab/tandemcab/NodeQueue" "nodes" "[I" (.ref tn)) (F_a1_seconds : Fld Z h0 a1 "com/example/tandemcab/tandemcab/NodeQueue" "seconds" "[D" (.ref ts)) (F_a1_metres : Fld Z h0 a1 "com/example/tandemcab/tandemcab/NodeQueue" "metres" "[D" (.ref tm)) (F_a1_position : Fld Z h0 a1 "com/example/tandemcab/tandemcab/NodeQueue" "position" "[I" (.ref tp)) (F_a1_size : Fld Z h0 a1 "com/example/tandemcab/tandemcab/NodeQueue" "size" "I" (.int 3)) (V_tn : Arv Z h0 tn kn .int (3 : Int32) [(.int 0), (.int 1), (.int 2)] (.int 0)) (V_ts : Arv Z h0 ts ks .double (3 : Int32) [s0, s1, s2] (.double 0)) (V_tm : Arv Z h0 tm km .double (3 : Int32) [m0, m1, m2] (.double 0)) (V_tp : Arv Z h0 tp kp .int (3 : Int32) [p0, p1, p2] (.int 0)) (g_a1 : n0 ≤ a1) (g_tn : n0 ≤ tn) (g_ts : n0 ≤ ts) (g_tm : n0 ≤ tm) (g_tp : n0 ≤ tp) (ne_a1_tn : a1 ≠ tn) (ne_a1_ts : a1 ≠ ts) (ne_a1_tm : a1 ≠ tm) (ne_a1_tp : a1 ≠ tp) (ne_tn_ts : tn ≠ ts) (ne_tn_tm : tn ≠ tm) (ne_tn_tp : tn ≠ tp) (ne_ts_tm : ts ≠ tm) (ne_ts_tp : ts ≠ tp) (ne_tm_tp : tm ≠ tp) :
    MetFree l (⟨"com/example/tandemcab/tandemcab/NodeQueue", "clear", "()V"⟩ : MethodName) (head1 (Jvm.Cond.code (⟨"com/example/tandemcab/tandemcab/NodeQueue", "clear", "()V"⟩ : MethodName) prog_49_method_3_code 2 none :: wsC) ({ frames := 0, cells := 0, slots := 0, locals := 0 } : Room)) (fun a U => a = #[(.ref a1)] ∧ Z.Warmed39 U.vm ∧ U.heap = h0) (fun _ _ _ _ _ => True) (fun _ U o U' => ∃ v L, o = .returned v ∧ Q3t39 Z a1 tn ts tm tp kn ks km kp s0 s1 s2 m0 m1 m2 p0 p1 p2 h0 n0 v U'.heap L ∧ FrameEnd U o U' L ({ frames := 0, cells := 0, slots := 0, locals := 0 } : Room).cells ({ frames := 0, cells := 0, slots := 0, locals := 0 } : Room).slots) := by
  refine MetFree.of_bodySF (plainFor_of_name pn_0) hisR ?_
  intro p e s m args below meth c s₁ Bd hml0 hP hK
  obtain ⟨rfl, hZ, hh⟩ := hP
  have hx := Bd.exec
  have hby := Bd.bytes
  have hml : c.maxLocals = 2 := hml0
  have hown : s.vm.findClass "com/example/tandemcab/tandemcab/NodeQueue" = some m.cls := findClass_of_methodNamed Bd.named
  have hnm := (name_of_methodNamed Bd.named Bd.method).1
  have X0 : Stand p l e ({ frames := 0, cells := 0, slots := 0, locals := 0 } : Room) s m #[(.ref a1)] below meth c s₁ [] 0 0 := Stand.of_body Bd
  have e0 : s₁.heap = h0 := by rw [← hh, Bd.state]; rfl
  have NF := Fr.nil n0
  have KP : Keep h0 h0 [a1, tn, ts, tm, tp] := Keep.refl h0 _
  refine WP.go ?_
  refine WP.cast (ef_3t39 m a1) ?_
  refine WP.name ?_
  intro G hG
  refine WP.st (T' := s₁) (f' := (mkF m 4 #[.val (.ref a1), .val (.int 0)] [(.ref a1), (.int 0)])) (fun t k => ?_) ?_
  · refine XS.iconst X0.here hx rfl (hb hby d3_0) ?_
    refine XS.istoreN X0.here hx rfl (hb hby d3_1) rfl (l' := #[.val (.ref a1), .val (.int 0)]) rfl ?_
    refine XS.iloadN X0.here hx rfl (hb hby d3_2) rfl ?_
    refine XS.aloadN X0.here hx rfl (hb hby d3_3) rfl rfl ?_
    exact k
  obtain ⟨T372, X372, e372, st372⟩ := getF X0 hx hZ hown (host := "") (Or.inl (w_24 hw)) Via.refl e0 F_a1_size (g := (mkF m 4 #[.val (.ref a1), .val (.int 0)] [(.ref a1), (.int 0)])) rfl rfl (hb hby d3_4)
  refine WP.st st372 ?_
  clear st372
  show WP p.tables e below _ T372 (mkF m 7 #[.val (.ref a1), .val (.int 0)] [(.int 3), (.int 0)])
  refine WP.st (T' := T372) (f' := (mkF m 11 #[.val (.ref a1), .val (.int 0)] [(.ref a1)])) (fun t k => ?_) ?_
  · refine XS.icmpNo X372.here hx rfl (hb hby d3_7) rfl (tlt (by decide : (0 : Int32) < (3 : Int32))).2.1 ?_
    refine XS.aloadN X372.here hx rfl (hb hby d3_10) rfl rfl ?_
    exact k
  obtain ⟨T373, X373, e373, st373⟩ := getF X372 hx hZ hown (host := "") (Or.inl (w_17 hw)) Via.refl e372 F_a1_position (g := (mkF m 11 #[.val (.ref a1), .val (.int 0)] [(.ref a1)])) rfl rfl (hb hby d3_11)
  refine WP.st st373 ?_
  clear st373
  show WP p.tables e below _ T373 (mkF m 14 #[.val (.ref a1), .val (.int 0)] [(.ref tp)])
  refine WP.st (T' := T373) (f' := (mkF m 15 #[.val (.ref a1), .val (.int 0)] [(.ref a1), (.ref tp)])) (fun t k => ?_) ?_
  · refine XS.aloadN X373.here hx rfl (hb hby d3_14) rfl rfl ?_
    exact k
  obtain ⟨T374, X374, e374, st374⟩ := getF X373 hx hZ hown (host := "") (Or.inl (w_10 hw)) Via.refl e373 F_a1_nodes (g := (mkF m 15 #[.val (.ref a1), .val (.int 0)] [(.ref a1), (.ref tp)])) rfl rfl (hb hby d3_15)
  refine WP.st st374 ?_
  clear st374
  show WP p.tables e below _ T374 (mkF m 18 #[.val (.ref a1), .val (.int 0)] [(.ref tn), (.ref tp)])
  refine WP.st (T' := T374) (f' := (mkF m 19 #[.val (.ref a1), .val (.int 0)] [(.int 0), (.ref tn), (.ref tp)])) (fun t k => ?_) ?_
  · refine XS.iloadN X374.here hx rfl (hb hby d3_18) rfl ?_
    exact k
  obtain ⟨cl375, Ar375, hin375, hat375, -⟩ := V_tn.rd (j := (0 : Int32)) ⟨by decide, by decide⟩
  replace hat375 : cl375.slots[((0 : Int32)).toNatClampNeg]? = some (.int 0) := hat375
  refine WP.st (T' := T374) (f' := (mkF m 21 #[.val (.ref a1), .val (.int 0)] [(.int 0), (.int 0), (.ref tp)])) (fun t k => ?_) ?_
  · refine X374.iaload hx (j := (0 : Int32)) (v := (.int 0)) (by rw [e374]; exact Ar375.1) (State.isArrayOf_alike hZ.alike Ar375.2.1) Ar375.2.2 hin375 hat375 (g := (mkF m 19 #[.val (.ref a1), .val (.int 0)] [(.int 0), (.ref tn), (.ref tp)])) rfl rfl (hb hby d3_19) _ ?_
    refine XS.iconst X374.here hx rfl (hb hby d3_20) ?_
    exact k
  obtain ⟨cl376, Ar376, q376, S376, N376, H376, G376⟩ := V_tp
  have hin376 : ¬ ((0 : Int32) < 0 ∨ cl376.slots.size ≤ ((0 : Int32)).toNatClampNeg) := inb_of S376 ⟨by decide, by decide⟩
  obtain ⟨T377, h377, X377, e377, W377, st377⟩ := stI X374 hx hZ e374 Ar376 (j := (0 : Int32)) hin376 (g := (mkF m 21 #[.val (.ref a1), .val (.int 0)] [(.int 0), (.int 0), (.ref tp)])) rfl rfl (hb hby d3_21)
  refine WP.st st377 ?_
  clear st377
  have Vn : Arv Z h377 tp kp .int (3 : Int32) [(.int 0), p1, p2] (.int 0) := Arv.set Ar376 q376 S376 N376 H376 G376 rfl W377 0 rfl (Nat.le_of_ble_eq_true rfl)
  replace E_a1 := E_a1.wr W377
  replace F_a1_nodes := F_a1_nodes.other W377 (Or.inl ne_a1_tp)
  replace F_a1_seconds := F_a1_seconds.other W377 (Or.inl ne_a1_tp)
  replace F_a1_metres := F_a1_metres.other W377 (Or.inl ne_a1_tp)
  replace F_a1_position := F_a1_position.other W377 (Or.inl ne_a1_tp)
  replace F_a1_size := F_a1_size.other W377 (Or.inl ne_a1_tp)
  replace V_tn := V_tn.other W377 ne_tn_tp
  replace V_ts := V_ts.other W377 ne_ts_tp
  replace V_tm := V_tm.other W377 ne_tm_tp
  replace Z0 := Nat.le_trans Z0 (Keep.of_wr W377).1
  replace KP := KP.wr W377 (Or.inl (List.mem_of_getElem? (i := 4) rfl))
  replace V_tp := Vn
  replace NF := Fr.snoc X377 NF g_tp
  clear W377 hin376 q376 S376 N376 H376 G376 Ar376
  show WP p.tables e below _ T377 (mkF m 22 #[.val (.ref a1), .val (.int 0)] [])
  refine WP.st (T' := T377) (f' := (mkF m 25 #[.val (.ref a1), .val (.int ((0 : Int32) + (1 : Int32)))] [])) (fun t k => ?_) ?_
  · refine XS.iinc X377.here hx rfl (hb hby d3_22) rfl (l' := #[.val (.ref a1), .val (.int ((0 : Int32) + (1 : Int32)))]) rfl ?_
    exact k
  rw [show ((0 : Int32) + (1 : Int32)) = (1 : Int32) from by decide]
  show WP p.tables e below _ T377 (mkF m 25 #[.val (.ref a1), .val (.int 1)] [])
  refine WP.st (T' := T377) (f' := (mkF m 4 #[.val (.ref a1), .val (.int 1)] [(.ref a1), (.int 1)])) (fun t k => ?_) ?_
  · refine XS.goto X377.here hx rfl (pc0 := 25) (pc' := 2) rfl (hb hby d3_25) (by decide) (by decide) ?_
    refine XS.iloadN X377.here hx rfl (hb hby d3_2) rfl ?_
    refine XS.aloadN X377.here hx rfl (hb hby d3_3) rfl rfl ?_
    exact k
  obtain ⟨T378, X378, e378, st378⟩ := getF X377 hx hZ hown (host := "") (Or.inl (w_24 hw)) Via.refl e377 F_a1_size (g := (mkF m 4 #[.val (.ref a1), .val (.int 1)] [(.ref a1), (.int 1)])) rfl rfl (hb hby d3_4)
  refine WP.st st378 ?_
  clear st378
  show WP p.tables e below _ T378 (mkF m 7 #[.val (.ref a1), .val (.int 1)] [(.int 3), (.int 1)])
  refine WP.st (T' := T378) (f' := (mkF m 11 #[.val (.ref a1), .val (.int 1)] [(.ref a1)])) (fun t k => ?_) ?_
  · refine XS.icmpNo X378.here hx rfl (hb hby d3_7) rfl (tlt (by decide : (1 : Int32) < (3 : Int32))).2.1 ?_
    refine XS.aloadN X378.here hx rfl (hb hby d3_10) rfl rfl ?_
    exact k
  obtain ⟨T379, X379, e379, st379⟩ := getF X378 hx hZ hown (host := "") (Or.inl (w_17 hw)) Via.refl e378 F_a1_position (g := (mkF m 11 #[.val (.ref a1), .val (.int 1)] [(.ref a1)])) rfl rfl (hb hby d3_11)
  refine WP.st st379 ?_
  clear st379
  show WP p.tables e below _ T379 (mkF m 14 #[.val (.ref a1), .val (.int 1)] [(.ref tp)])
  refine WP.st (T' := T379) (f' := (mkF m 15 #[.val (.ref a1), .val (.int 1)] [(.ref a1), (.ref tp)])) (fun t k => ?_) ?_
  · refine XS.aloadN X379.here hx rfl (hb hby d3_14) rfl rfl ?_
    exact k
  obtain ⟨T380, X380, e380, st380⟩ := getF X379 hx hZ hown (host := "") (Or.inl (w_10 hw)) Via.refl e379 F_a1_nodes (g := (mkF m 15 #[.val (.ref a1), .val (.int 1)] [(.ref a1), (.ref tp)])) rfl rfl (hb hby d3_15)
  refine WP.st st380 ?_
  clear st380
  show WP p.tables e below _ T380 (mkF m 18 #[.val (.ref a1), .val (.int 1)] [(.ref tn), (.ref tp)])
  refine WP.st (T' := T380) (f' := (mkF m 19 #[.val (.ref a1), .val (.int 1)] [(.int 1), (.ref tn), (.ref tp)])) (fun t k => ?_) ?_
  · refine XS.iloadN X380.here hx rfl (hb hby d3_18) rfl ?_
    exact k
  obtain ⟨cl381, Ar381, hin381, hat381, -⟩ := V_tn.rd (j := (1 : Int32)) ⟨by decide, by decide⟩
  replace hat381 : cl381.slots[((1 : Int32)).toNatClampNeg]? = some (.int 1) := hat381
  refine WP.st (T' := T380) (f' := (mkF m 21 #[.val (.ref a1), .val (.int 1)] [(.int 0), (.int 1), (.ref tp)])) (fun t k => ?_) ?_
  · refine X380.iaload hx (j := (1 : Int32)) (v := (.int 1)) (by rw [e380]; exact Ar381.1) (State.isArrayOf_alike hZ.alike Ar381.2.1) Ar381.2.2 hin381 hat381 (g := (mkF m 19 #[.val (.ref a1), .val (.int 1)] [(.int 1), (.ref tn), (.ref tp)])) rfl rfl (hb hby d3_19) _ ?_
    refine XS.iconst X380.here hx rfl (hb hby d3_20) ?_
    exact k
  obtain ⟨cl382, Ar382, q382, S382, N382, H382, G382⟩ := V_tp
  have hin382 : ¬ ((1 : Int32) < 0 ∨ cl382.slots.size ≤ ((1 : Int32)).toNatClampNeg) := inb_of S382 ⟨by decide, by decide⟩
  obtain ⟨T383, h383, X383, e383, W383, st383⟩ := stI X380 hx hZ e380 Ar382 (j := (1 : Int32)) hin382 (g := (mkF m 21 #[.val (.ref a1), .val (.int 1)] [(.int 0), (.int 1), (.ref tp)])) rfl rfl (hb hby d3_21)
  refine WP.st st383 ?_
  clear st383
  have Vn : Arv Z h383 tp kp .int (3 : Int32) [(.int 0), (.int 0), p2] (.int 0) := Arv.set Ar382 q382 S382 N382 H382 G382 rfl W383 1 rfl (Nat.le_of_ble_eq_true rfl)
  replace E_a1 := E_a1.wr W383
  replace F_a1_nodes := F_a1_nodes.other W383 (Or.inl ne_a1_tp)
  replace F_a1_seconds := F_a1_seconds.other W383 (Or.inl ne_a1_tp)
  replace F_a1_metres := F_a1_metres.other W383 (Or.inl ne_a1_tp)
  replace F_a1_position := F_a1_position.other W383 (Or.inl ne_a1_tp)
  replace F_a1_size := F_a1_size.other W383 (Or.inl ne_a1_tp)
  replace V_tn := V_tn.other W383 ne_tn_tp
  replace V_ts := V_ts.other W383 ne_ts_tp
  replace V_tm := V_tm.other W383 ne_tm_tp
  replace Z0 := Nat.le_trans Z0 (Keep.of_wr W383).1
  replace KP := KP.wr W383 (Or.inl (List.mem_of_getElem? (i := 4) rfl))
  replace V_tp := Vn
  replace NF := Fr.snoc X383 NF g_tp
  clear W383 hin382 q382 S382 N382 H382 G382 Ar382
  show WP p.tables e below _ T383 (mkF m 22 #[.val (.ref a1), .val (.int 1)] [])
  refine WP.st (T' := T383) (f' := (mkF m 25 #[.val (.ref a1), .val (.int ((1 : Int32) + (1 : Int32)))] [])) (fun t k => ?_) ?_
  · refine XS.iinc X383.here hx rfl (hb hby d3_22) rfl (l' := #[.val (.ref a1), .val (.int ((1 : Int32) + (1 : Int32)))]) rfl ?_
    exact k
  rw [show ((1 : Int32) + (1 : Int32)) = (2 : Int32) from by decide]
  show WP p.tables e below _ T383 (mkF m 25 #[.val (.ref a1), .val (.int 2)] [])
  refine WP.st (T' := T383) (f' := (mkF m 4 #[.val (.ref a1), .val (.int 2)] [(.ref a1), (.int 2)])) (fun t k => ?_) ?_
  · refine XS.goto X383.here hx rfl (pc0 := 25) (pc' := 2) rfl (hb hby d3_25) (by decide) (by decide) ?_
    refine XS.iloadN X383.here hx rfl (hb hby d3_2) rfl ?_
    refine XS.aloadN X383.here hx rfl (hb hby d3_3) rfl rfl ?_
    exact k
  obtain ⟨T384, X384, e384, st384⟩ := getF X383 hx hZ hown (host := "") (Or.inl (w_24 hw)) Via.refl e383 F_a1_size (g := (mkF m 4 #[.val (.ref a1), .val (.int 2)] [(.ref a1), (.int 2)])) rfl rfl (hb hby d3_4)
  refine WP.st st384 ?_
  clear st384
  show WP p.tables e below _ T384 (mkF m 7 #[.val (.ref a1), .val (.int 2)] [(.int 3), (.int 2)])
  refine WP.st (T' := T384) (f' := (mkF m 11 #[.val (.ref a1), .val (.int 2)] [(.ref a1)])) (fun t k => ?_) ?_
  · refine XS.icmpNo X384.here hx rfl (hb hby d3_7) rfl (tlt (by decide : (2 : Int32) < (3 : Int32))).2.1 ?_
    refine XS.aloadN X384.here hx rfl (hb hby d3_10) rfl rfl ?_
    exact k
  obtain ⟨T385, X385, e385, st385⟩ := getF X384 hx hZ hown (host := "") (Or.inl (w_17 hw)) Via.refl e384 F_a1_position (g := (mkF m 11 #[.val (.ref a1), .val (.int 2)] [(.ref a1)])) rfl rfl (hb hby d3_11)
  refine WP.st st385 ?_
  clear st385
  show WP p.tables e below _ T385 (mkF m 14 #[.val (.ref a1), .val (.int 2)] [(.ref tp)])
  refine WP.st (T' := T385) (f' := (mkF m 15 #[.val (.ref a1), .val (.int 2)] [(.ref a1), (.ref tp)])) (fun t k => ?_) ?_
  · refine XS.aloadN X385.here hx rfl (hb hby d3_14) rfl rfl ?_
    exact k
  obtain ⟨T386, X386, e386, st386⟩ := getF X385 hx hZ hown (host := "") (Or.inl (w_10 hw)) Via.refl e385 F_a1_nodes (g := (mkF m 15 #[.val (.ref a1), .val (.int 2)] [(.ref a1), (.ref tp)])) rfl rfl (hb hby d3_15)
  refine WP.st st386 ?_
  clear st386
  show WP p.tables e below _ T386 (mkF m 18 #[.val (.ref a1), .val (.int 2)] [(.ref tn), (.ref tp)])
  refine WP.st (T' := T386) (f' := (mkF m 19 #[.val (.ref a1), .val (.int 2)] [(.int 2), (.ref tn), (.ref tp)])) (fun t k => ?_) ?_
  · refine XS.iloadN X386.here hx rfl (hb hby d3_18) rfl ?_
    exact k
  obtain ⟨cl387, Ar387, hin387, hat387, -⟩ := V_tn.rd (j := (2 : Int32)) ⟨by decide, by decide⟩
  replace hat387 : cl387.slots[((2 : Int32)).toNatClampNeg]? = some (.int 2) := hat387
  refine WP.st (T' := T386) (f' := (mkF m 21 #[.val (.ref a1), .val (.int 2)] [(.int 0), (.int 2), (.ref tp)])) (fun t k => ?_) ?_
  · refine X386.iaload hx (j := (2 : Int32)) (v := (.int 2)) (by rw [e386]; exact Ar387.1) (State.isArrayOf_alike hZ.alike Ar387.2.1) Ar387.2.2 hin387 hat387 (g := (mkF m 19 #[.val (.ref a1), .val (.int 2)] [(.int 2), (.ref tn), (.ref tp)])) rfl rfl (hb hby d3_19) _ ?_
    refine XS.iconst X386.here hx rfl (hb hby d3_20) ?_
    exact k
  obtain ⟨cl388, Ar388, q388, S388, N388, H388, G388⟩ := V_tp
  have hin388 : ¬ ((2 : Int32) < 0 ∨ cl388.slots.size ≤ ((2 : Int32)).toNatClampNeg) := inb_of S388 ⟨by decide, by decide⟩
  obtain ⟨T389, h389, X389, e389, W389, st389⟩ := stI X386 hx hZ e386 Ar388 (j := (2 : Int32)) hin388 (g := (mkF m 21 #[.val (.ref a1), .val (.int 2)] [(.int 0), (.int 2), (.ref tp)])) rfl rfl (hb hby d3_21)
  refine WP.st st389 ?_
  clear st389
  have Vn : Arv Z h389 tp kp .int (3 : Int32) [(.int 0), (.int 0), (.int 0)] (.int 0) := Arv.set Ar388 q388 S388 N388 H388 G388 rfl W389 2 rfl (Nat.le_of_ble_eq_true rfl)
  replace E_a1 := E_a1.wr W389
  replace F_a1_nodes := F_a1_nodes.other W389 (Or.inl ne_a1_tp)
  replace F_a1_seconds := F_a1_seconds.other W389 (Or.inl ne_a1_tp)
  replace F_a1_metres := F_a1_metres.other W389 (Or.inl ne_a1_tp)
  replace F_a1_position := F_a1_position.other W389 (Or.inl ne_a1_tp)
  replace F_a1_size := F_a1_size.other W389 (Or.inl ne_a1_tp)
  replace V_tn := V_tn.other W389 ne_tn_tp
  replace V_ts := V_ts.other W389 ne_ts_tp
  replace V_tm := V_tm.other W389 ne_tm_tp
  replace Z0 := Nat.le_trans Z0 (Keep.of_wr W389).1
  replace KP := KP.wr W389 (Or.inl (List.mem_of_getElem? (i := 4) rfl))
  replace V_tp := Vn
  replace NF := Fr.snoc X389 NF g_tp
  clear W389 hin388 q388 S388 N388 H388 G388 Ar388
  show WP p.tables e below _ T389 (mkF m 22 #[.val (.ref a1), .val (.int 2)] [])
  refine WP.st (T' := T389) (f' := (mkF m 25 #[.val (.ref a1), .val (.int ((2 : Int32) + (1 : Int32)))] [])) (fun t k => ?_) ?_
  · refine XS.iinc X389.here hx rfl (hb hby d3_22) rfl (l' := #[.val (.ref a1), .val (.int ((2 : Int32) + (1 : Int32)))]) rfl ?_
    exact k
  rw [show ((2 : Int32) + (1 : Int32)) = (3 : Int32) from by decide]
  show WP p.tables e below _ T389 (mkF m 25 #[.val (.ref a1), .val (.int 3)] [])
  refine WP.st (T' := T389) (f' := (mkF m 4 #[.val (.ref a1), .val (.int 3)] [(.ref a1), (.int 3)])) (fun t k => ?_) ?_
  · refine XS.goto X389.here hx rfl (pc0 := 25) (pc' := 2) rfl (hb hby d3_25) (by decide) (by decide) ?_
    refine XS.iloadN X389.here hx rfl (hb hby d3_2) rfl ?_
    refine XS.aloadN X389.here hx rfl (hb hby d3_3) rfl rfl ?_
    exact k
  obtain ⟨T390, X390, e390, st390⟩ := getF X389 hx hZ hown (host := "") (Or.inl (w_24 hw)) Via.refl e389 F_a1_size (g := (mkF m 4 #[.val (.ref a1), .val (.int 3)] [(.ref a1), (.int 3)])) rfl rfl (hb hby d3_4)
  refine WP.st st390 ?_
  clear st390
  show WP p.tables e below _ T390 (mkF m 7 #[.val (.ref a1), .val (.int 3)] [(.int 3), (.int 3)])
  refine WP.st (T' := T390) (f' := (mkF m 30 #[.val (.ref a1), .val (.int 3)] [(.int 0), (.ref a1)])) (fun t k => ?_) ?_
  · refine XS.icmpYes X390.here hx rfl (pc0 := 7) (pc' := 28) rfl (hb hby d3_7) rfl (flt (by decide : ¬ ((3 : Int32) < (3 : Int32)))).2.1 (by decide) (by decide) ?_
    refine XS.aloadN X390.here hx rfl (hb hby d3_28) rfl rfl ?_
    refine XS.iconst X390.here hx rfl (hb hby d3_29) ?_
    exact k
  obtain ⟨T391, h391, X391, e391, W391, st391⟩ := putF X390 hx hZ hown (host := "") (Or.inl (w_24 hw)) Via.refl e390 F_a1_size E_a1 (Or.inl (w_25 hw)) (w_1 hw) (ty := .int) (by decide) rfl rfl (g := (mkF m 30 #[.val (.ref a1), .val (.int 3)] [(.int 0), (.ref a1)])) rfl rfl (hb hby d3_30)
  refine WP.st st391 ?_
  clear st391
  replace E_a1 := E_a1.wr W391
  replace F_a1_nodes := F_a1_nodes.other W391 (Or.inr (sn_16 hw))
  replace F_a1_seconds := F_a1_seconds.other W391 (Or.inr (sn_17 hw))
  replace F_a1_metres := F_a1_metres.other W391 (Or.inr (sn_18 hw))
  replace F_a1_position := F_a1_position.other W391 (Or.inr (sn_19 hw))
  replace F_a1_size := F_a1_size.same W391
  replace V_tn := V_tn.other W391 (Ne.symm ne_a1_tn)
  replace V_ts := V_ts.other W391 (Ne.symm ne_a1_ts)
  replace V_tm := V_tm.other W391 (Ne.symm ne_a1_tm)
  replace V_tp := V_tp.other W391 (Ne.symm ne_a1_tp)
  replace Z0 := Nat.le_trans Z0 (Keep.of_wr W391).1
  replace KP := KP.wr W391 (Or.inl (List.mem_of_getElem? (i := 0) rfl))
  replace NF := Fr.snoc X391 NF g_a1
  clear W391
  show WP p.tables e below _ T391 (mkF m 33 #[.val (.ref a1), .val (.int 3)] [])
  subst hG
  obtain ⟨fs, hr, hrun, hended, hW, hsame⟩ := X391.leave (v := none) (fun _ => rfl)
  refine WP.fin ⟨_, _, ?_, hrun, hended, _, _, rfl, ?_, ⟨_, rfl⟩, hW, hsame.mono (by decide) (by decide)⟩
  · exact X391.returnOut hx Bd.returns (hb hby d3_33) hr
  · show Q3t39 Z a1 tn ts tm tp kn ks km kp s0 s1 s2 m0 m1 m2 p0 p1 p2 h0 n0 _ T391.heap _
    rw [e391]
    exact ⟨rfl, NF, KP, F_a1_nodes, F_a1_seconds, F_a1_metres, F_a1_position, F_a1_size, V_tn, V_ts, V_tm, V_tp⟩
theorem ef_6t41 (m : MethodId) (z0 : Addr) (z2 : UInt64) (z3 : UInt64) : entryFrame m #[(.ref z0), (.int 0), (.double z2), (.double z3), (.int 2)] 8 = mkF m 0 #[.val (.ref z0), .val (.int 0), .val (.double z2), .second, .val (.double z3), .second, .val (.int 2), .unset] [] := by
  all_goals first | (simp [entryFrame, mkF, argsToLocals, Value.category]; done) | rfl
def Q6t41 (Z : State) (a1 : Addr) (x1 : UInt64) (x2 : UInt64) (tn : Addr) (ts : Addr) (tm : Addr) (tp : Addr) (kn : ClassId) (ks : ClassId) (km : ClassId) (kp : ClassId) (nd1 : Value) (nd2 : Value) (y1 : UInt64) (s1 : Value) (s2 : Value) (y2 : UInt64) (m1 : Value) (m2 : Value) (p0 : Value) (p1 : Value) (p2 : Value) (u_size : Int32) (h0 : Heap) (n0 : Nat) (v : Option Value) (h : Heap) (L : List Loc) : Prop := v = none ∧ Fr n0 L ∧ Keep h0 h [a1, tn, ts, tm, tp] ∧ Fld Z h a1 "com/example/tandemcab/tandemcab/NodeQueue" "nodes" "[I" (.ref tn) ∧ Fld Z h a1 "com/example/tandemcab/tandemcab/NodeQueue" "seconds" "[D" (.ref ts) ∧ Fld Z h a1 "com/example/tandemcab/tandemcab/NodeQueue" "metres" "[D" (.ref tm) ∧ Fld Z h a1 "com/example/tandemcab/tandemcab/NodeQueue" "position" "[I" (.ref tp) ∧ Fld Z h a1 "com/example/tandemcab/tandemcab/NodeQueue" "size" "I" (.int u_size) ∧ (Arv Z h tn kn .int (3 : Int32) [(.int 1), nd1, (.int 0)] (.int 0)) ∧ (Arv Z h ts ks .double (3 : Int32) [(.double y1), s1, (.double x1)] (.double 0)) ∧ (Arv Z h tm km .double (3 : Int32) [(.double y2), m1, (.double x2)] (.double 0)) ∧ (Arv Z h tp kp .int (3 : Int32) [(.int 3), p1, p2] (.int 0))
set_option maxRecDepth 65536 in
set_option maxHeartbeats 40000000 in
theorem rm6t41 (l : Launch) (Z : State) (a0 : Array Value) (hw : ∀ d ∈ tables_1, d.before a0 Z = true) (wsC : List Jvm.Cond) (a1 : Addr) (x1 : UInt64) (x2 : UInt64) (tn : Addr) (ts : Addr) (tm : Addr) (tp : Addr) (kn : ClassId) (ks : ClassId) (km : ClassId) (kp : ClassId) (nd1 : Value) (nd2 : Value) (y1 : UInt64) (s1 : Value) (s2 : Value) (y2 : UInt64) (m1 : Value) (m2 : Value) (p0 : Value) (p1 : Value) (p2 : Value) (u_size : Int32) (h0 : Heap) (n0 : Nat) (Z0 : n0 ≤ h0.size) (E_a1 : Exa Z h0 a1 "com/example/tandemcab/tandemcab/NodeQueue") (F_a1_nodes : Fld Z h0 a1 "com/example/tandemcab/tandemcab/NodeQueue" "nodes" "[I" (.ref tn)) (F_a1_seconds : Fld Z h0 a1 "com/example/tandemcab/tandemcab/NodeQueue" "seconds" "[D" (.ref ts)) (F_a1_metres : Fld Z h0 a1 "com/example/tandemcab/tandemcab/NodeQueue" "metres" "[D" (.ref tm)) (F_a1_position : Fld Z h0 a1 "com/example/tandemcab/tandemcab/NodeQueue" "position" "[I" (.ref tp)) (F_a1_size : Fld Z h0 a1 "com/example/tandemcab/tandemcab/NodeQueue" "size" "I" (.int u_size)) (V_tn : Arv Z h0 tn kn .int (3 : Int32) [(.int 1), nd1, nd2] (.int 0)) (V_ts : Arv Z h0 ts ks .double (3 : Int32) [(.double y1), s1, s2] (.double 0)) (V_tm : Arv Z h0 tm km .double (3 : Int32) [(.double y2), m1, m2] (.double 0)) (V_tp : Arv Z h0 tp kp .int (3 : Int32) [p0, p1, p2] (.int 0)) (g_a1 : n0 ≤ a1) (g_tn : n0 ≤ tn) (g_ts : n0 ≤ ts) (g_tm : n0 ≤ tm) (g_tp : n0 ≤ tp) (ne_a1_tn : a1 ≠ tn) (ne_a1_ts : a1 ≠ ts) (ne_a1_tm : a1 ≠ tm) (ne_a1_tp : a1 ≠ tp) (ne_tn_ts : tn ≠ ts) (ne_tn_tm : tn ≠ tm) (ne_tn_tp : tn ≠ tp) (ne_ts_tm : ts ≠ tm) (ne_ts_tp : ts ≠ tp) (ne_tm_tp : tm ≠ tp) (hbef : (own_before x1 x2 y1 y2) = (0 : Int32)) :
    MetFree l (⟨"com/example/tandemcab/tandemcab/NodeQueue", "up", "(IDDI)V"⟩ : MethodName) (head1 (Jvm.Cond.code (⟨"com/example/tandemcab/tandemcab/NodeQueue", "up", "(IDDI)V"⟩ : MethodName) prog_49_method_7_code 8 none :: wsC) ({ frames := 1, cells := 0, slots := 0, locals := 19 } : Room)) (fun a U => a = #[(.ref a1), (.int 0), (.double x1), (.double x2), (.int 2)] ∧ Z.Warmed39 U.vm ∧ U.heap = h0) (fun _ _ _ _ _ => True) (fun _ U o U' => ∃ v L, o = .returned v ∧ Q6t41 Z a1 x1 x2 tn ts tm tp kn ks km kp nd1 nd2 y1 s1 s2 y2 m1 m2 p0 p1 p2 u_size h0 n0 v U'.heap L ∧ FrameEnd U o U' L ({ frames := 1, cells := 0, slots := 0, locals := 19 } : Room).cells ({ frames := 1, cells := 0, slots := 0, locals := 19 } : Room).slots) := by
  refine MetFree.of_bodySF (plainFor_of_name pn_0) hisR ?_
  intro p e s m args below meth c s₁ Bd hml0 hP hK
  obtain ⟨rfl, hZ, hh⟩ := hP
  have hx := Bd.exec
  have hby := Bd.bytes
  have hml : c.maxLocals = 8 := hml0
  have hown : s.vm.findClass "com/example/tandemcab/tandemcab/NodeQueue" = some m.cls := findClass_of_methodNamed Bd.named
  have hnm := (name_of_methodNamed Bd.named Bd.method).1
  have X0 : Stand p l e ({ frames := 1, cells := 0, slots := 0, locals := 19 } : Room) s m #[(.ref a1), (.int 0), (.double x1), (.double x2), (.int 2)] below meth c s₁ [] 0 0 := Stand.of_body Bd
  have e0 : s₁.heap = h0 := by rw [← hh, Bd.state]; rfl
  have NF := Fr.nil n0
  have KP : Keep h0 h0 [a1, tn, ts, tm, tp] := Keep.refl h0 _
  refine WP.go ?_
  refine WP.cast (ef_6t41 m a1 x1 x2) ?_
  refine WP.name ?_
  intro G hG
  refine WP.st (T' := s₁) (f' := (mkF m 9 #[.val (.ref a1), .val (.int 0), .val (.double x1), .second, .val (.double x2), .second, .val (.int 2), .unset] [(.int ((2 : Int32) - (1 : Int32)))])) (fun t k => ?_) ?_
  · refine XS.iload X0.here hx rfl (hb hby d6_0) rfl ?_
    refine XS.ifNo X0.here hx rfl (hb hby d6_2) rfl ((if0 _ _).trans (tlt (by decide : (0 : Int32) < (2 : Int32))).2.2.2) ?_
    refine XS.iload X0.here hx rfl (hb hby d6_5) rfl ?_
    refine XS.iconst X0.here hx rfl (hb hby d6_7) ?_
    refine XS.isub X0.here hx rfl (hb hby d6_8) rfl ?_
    exact k
  rw [show ((2 : Int32) - (1 : Int32)) = (1 : Int32) from by decide]
  show WP p.tables e below _ s₁ (mkF m 9 #[.val (.ref a1), .val (.int 0), .val (.double x1), .second, .val (.double x2), .second, .val (.int 2), .unset] [(.int 1)])
  refine WP.st (T' := s₁) (f' := (mkF m 11 #[.val (.ref a1), .val (.int 0), .val (.double x1), .second, .val (.double x2), .second, .val (.int 2), .unset] [(.int (((1 : Int32).toUInt32 >>> ((1 : Int32) &&& 31).toUInt32).toInt32))])) (fun t k => ?_) ?_
  · refine XS.iconst X0.here hx rfl (hb hby d6_9) ?_
    refine XS.iushr X0.here hx rfl (hb hby d6_10) rfl ?_
    exact k
  rw [show (((1 : Int32).toUInt32 >>> ((1 : Int32) &&& 31).toUInt32).toInt32) = (0 : Int32) from by decide]
  show WP p.tables e below _ s₁ (mkF m 11 #[.val (.ref a1), .val (.int 0), .val (.double x1), .second, .val (.double x2), .second, .val (.int 2), .unset] [(.int 0)])
  refine WP.st (T' := s₁) (f' := (mkF m 17 #[.val (.ref a1), .val (.int 0), .val (.double x1), .second, .val (.double x2), .second, .val (.int 2), .val (.int 0)] [(.ref a1), (.double x2), (.double x1)])) (fun t k => ?_) ?_
  · refine XS.istore X0.here hx rfl (hb hby d6_11) rfl (l' := #[.val (.ref a1), .val (.int 0), .val (.double x1), .second, .val (.double x2), .second, .val (.int 2), .val (.int 0)]) rfl ?_
    refine XS.dloadN X0.here hx rfl (hb hby d6_13) rfl ?_
    refine XS.dload X0.here hx rfl (hb hby d6_14) rfl ?_
    refine XS.aloadN X0.here hx rfl (hb hby d6_16) rfl rfl ?_
    exact k
  obtain ⟨T395, X395, e395, st395⟩ := getF X0 hx hZ hown (host := "") (Or.inl (w_13 hw)) Via.refl e0 F_a1_seconds (g := (mkF m 17 #[.val (.ref a1), .val (.int 0), .val (.double x1), .second, .val (.double x2), .second, .val (.int 2), .val (.int 0)] [(.ref a1), (.double x2), (.double x1)])) rfl rfl (hb hby d6_17)
  refine WP.st st395 ?_
  clear st395
  show WP p.tables e below _ T395 (mkF m 20 #[.val (.ref a1), .val (.int 0), .val (.double x1), .second, .val (.double x2), .second, .val (.int 2), .val (.int 0)] [(.ref ts), (.double x2), (.double x1)])
  refine WP.st (T' := T395) (f' := (mkF m 22 #[.val (.ref a1), .val (.int 0), .val (.double x1), .second, .val (.double x2), .second, .val (.int 2), .val (.int 0)] [(.int 0), (.ref ts), (.double x2), (.double x1)])) (fun t k => ?_) ?_
  · refine XS.iload X395.here hx rfl (hb hby d6_20) rfl ?_
    exact k
  obtain ⟨cl396, Ar396, hin396, hat396, -⟩ := V_ts.rd (j := (0 : Int32)) ⟨by decide, by decide⟩
  replace hat396 : cl396.slots[((0 : Int32)).toNatClampNeg]? = some (.double y1) := hat396
  refine WP.st (T' := T395) (f' := (mkF m 24 #[.val (.ref a1), .val (.int 0), .val (.double x1), .second, .val (.double x2), .second, .val (.int 2), .val (.int 0)] [(.ref a1), (.double y1), (.double x2), (.double x1)])) (fun t k => ?_) ?_
  · refine X395.daload hx (j := (0 : Int32)) (v := (.double y1)) (by rw [e395]; exact Ar396.1) (State.isArrayOf_alike hZ.alike Ar396.2.1) Ar396.2.2 hin396 hat396 (g := (mkF m 22 #[.val (.ref a1), .val (.int 0), .val (.double x1), .second, .val (.double x2), .second, .val (.int 2), .val (.int 0)] [(.int 0), (.ref ts), (.double x2), (.double x1)])) rfl rfl (hb hby d6_22) _ ?_
    refine XS.aloadN X395.here hx rfl (hb hby d6_23) rfl rfl ?_
    exact k
  obtain ⟨T397, X397, e397, st397⟩ := getF X395 hx hZ hown (host := "") (Or.inl (w_15 hw)) Via.refl e395 F_a1_metres (g := (mkF m 24 #[.val (.ref a1), .val (.int 0), .val (.double x1), .second, .val (.double x2), .second, .val (.int 2), .val (.int 0)] [(.ref a1), (.double y1), (.double x2), (.double x1)])) rfl rfl (hb hby d6_24)
  refine WP.st st397 ?_
  clear st397
  show WP p.tables e below _ T397 (mkF m 27 #[.val (.ref a1), .val (.int 0), .val (.double x1), .second, .val (.double x2), .second, .val (.int 2), .val (.int 0)] [(.ref tm), (.double y1), (.double x2), (.double x1)])
  refine WP.st (T' := T397) (f' := (mkF m 29 #[.val (.ref a1), .val (.int 0), .val (.double x1), .second, .val (.double x2), .second, .val (.int 2), .val (.int 0)] [(.int 0), (.ref tm), (.double y1), (.double x2), (.double x1)])) (fun t k => ?_) ?_
  · refine XS.iload X397.here hx rfl (hb hby d6_27) rfl ?_
    exact k
  obtain ⟨cl398, Ar398, hin398, hat398, -⟩ := V_tm.rd (j := (0 : Int32)) ⟨by decide, by decide⟩
  replace hat398 : cl398.slots[((0 : Int32)).toNatClampNeg]? = some (.double y2) := hat398
  refine WP.st (T' := T397) (f' := (mkF m 30 #[.val (.ref a1), .val (.int 0), .val (.double x1), .second, .val (.double x2), .second, .val (.int 2), .val (.int 0)] [(.double y2), (.double y1), (.double x2), (.double x1)])) (fun t k => ?_) ?_
  · refine X397.daload hx (j := (0 : Int32)) (v := (.double y2)) (by rw [e397]; exact Ar398.1) (State.isArrayOf_alike hZ.alike Ar398.2.1) Ar398.2.2 hin398 hat398 (g := (mkF m 29 #[.val (.ref a1), .val (.int 0), .val (.double x1), .second, .val (.double x2), .second, .val (.int 2), .val (.int 0)] [(.int 0), (.ref tm), (.double y1), (.double x2), (.double x1)])) rfl rfl (hb hby d6_29) _ ?_
    exact k
  obtain ⟨_, _, ⟨T399, L399, k399, n399⟩, -, X399, ⟨Lc399, hQ399, l399, y399, z399⟩, st399⟩ := Jvm.LawKit.callS X397 hx (y := (⟨"com/example/tandemcab/tandemcab/NodeQueue", "before", "(DDDD)Z"⟩ : MethodName)) hown (mvT hZ (w_46 hw)) (mvT hZ (w_47 hw)) (mvT hZ (w_2 hw)) (mvT hZ (w_48 hw)) (by decide) (backOf (W := 0) (rm8 l Z a0 hw [] x1 x2 y1 y2 h0 n0 Z0 ) hZ (w_48 hw) (w_2 hw) (by decide) (by decide)) (g := (mkF m 30 #[.val (.ref a1), .val (.int 0), .val (.double x1), .second, .val (.double x2), .second, .val (.int 2), .val (.int 0)] [(.double y2), (.double y1), (.double x2), (.double x1)])) rfl (by rw [hml]; rfl) (argsL := [(.double x1), (.double x2), (.double y1), (.double y2)]) (rest := []) (lenOf pd_4 rfl) rfl (by show 2 * 0 + _ ≤ _; exact Nat.le_of_eq rfl) (hb hby d6_30) (fun _ _ => ⟨rfl, e397, (by decide : 0 + 0 ≤ _), (by decide : 0 + 0 ≤ _)⟩)
  dsimp only [Pt.U, Pt.locs, Pt.cells, Pt.slots] at X399 l399 y399 z399 st399 hQ399
  subst l399 y399 z399
  obtain ⟨rfl, Nq399, Kq399⟩ := hQ399
  replace NF := Fr.app NF Nq399
  clear Nq399
  refine WP.st st399 ?_
  clear st399
  replace Kq399 := Kq399.trans (rfl : h0 = h0)
  show WP p.tables e below _ T399 (mkF m 33 #[.val (.ref a1), .val (.int 0), .val (.double x1), .second, .val (.double x2), .second, .val (.int 2), .val (.int 0)] [(.int (own_before x1 x2 y1 y2))])
  refine WP.st (T' := T399) (f' := (mkF m 61 #[.val (.ref a1), .val (.int 0), .val (.double x1), .second, .val (.double x2), .second, .val (.int 2), .val (.int 0)] [(.int 2), (.double x2), (.double x1), (.int 0), (.ref a1)])) (fun t k => ?_) ?_
  · refine XS.ifNo X399.here hx rfl (hb hby d6_33) rfl ((if0 _ _).trans (teq hbef).2) ?_
    refine XS.goto X399.here hx rfl (pc0 := 36) (pc' := 54) rfl (hb hby d6_36) (by decide) (by decide) ?_
    refine XS.aloadN X399.here hx rfl (hb hby d6_54) rfl rfl ?_
    refine XS.iloadN X399.here hx rfl (hb hby d6_55) rfl ?_
    refine XS.dloadN X399.here hx rfl (hb hby d6_56) rfl ?_
    refine XS.dload X399.here hx rfl (hb hby d6_57) rfl ?_
    refine XS.iload X399.here hx rfl (hb hby d6_59) rfl ?_
    exact k
  obtain ⟨cq400, q400, q400'⟩ := E_a1.cell
  obtain ⟨_, _, ⟨T400, L400, k400, n400⟩, -, X400, ⟨Lc400, hQ400, l400, y400, z400⟩, st400⟩ := X399.privateBack hx (y := (⟨"com/example/tandemcab/tandemcab/NodeQueue", "place", "(IDDI)V"⟩ : MethodName)) hown (mvT hZ (w_41 hw)) (mvT hZ (w_42 hw)) (ownSel (y := (⟨"com/example/tandemcab/tandemcab/NodeQueue", "place", "(IDDI)V"⟩ : MethodName)) (mvT hZ (w_22 hw)) rfl (Cond.privateMethod_at (mvP hZ (w_43 hw) (args := #[]))) (mvT hZ (w_42 hw)) (by decide)) (Cond.privateMethod_at (mvP hZ (w_43 hw) (args := #[]))) (mvT hZ (w_44 hw)) (by decide) (backOf (W := 0) (rm7t33 l Z a0 hw [] a1 x1 x2 tn ts tm tp kn ks km kp (.int 1) nd1 nd2 (.double y1) s1 s2 (.double y2) m1 m2 p0 p1 p2 u_size h0 n0 Z0 E_a1 F_a1_nodes F_a1_seconds F_a1_metres F_a1_position F_a1_size V_tn V_ts V_tm V_tp g_a1 g_tn g_ts g_tm g_tp ne_a1_tn ne_a1_ts ne_a1_tm ne_a1_tp ne_tn_ts ne_tn_tm ne_tn_tp ne_ts_tm ne_ts_tp ne_tm_tp) hZ (w_44 hw) (w_2 hw) (by decide) (by decide)) (g := (mkF m 61 #[.val (.ref a1), .val (.int 0), .val (.double x1), .second, .val (.double x2), .second, .val (.int 2), .val (.int 0)] [(.int 2), (.double x2), (.double x1), (.int 0), (.ref a1)])) rfl (by rw [hml]; rfl) (Steps.refl _) (a := a1) (by rw [Kq399]; exact q400) q400' (argsL := [(.int 0), (.double x1), (.double x2), (.int 2)]) (rest := []) (lenOf pd_2 rfl) rfl (by show 2 * 0 + _ ≤ _; exact Nat.le_of_eq rfl) (hb hby d6_61) (fun _ _ => ⟨rfl, Kq399, (by decide : 0 + 0 ≤ _), (by decide : 0 + 0 ≤ _)⟩)
  dsimp only [Pt.U, Pt.locs, Pt.cells, Pt.slots] at X400 l400 y400 z400 st400 hQ400
  subst l400 y400 z400
  obtain ⟨rfl, Nq400, Kq400, nF400_a1_nodes, nF400_a1_seconds, nF400_a1_metres, nF400_a1_position, nF400_a1_size, nA400_tn, nA400_ts, nA400_tm, nA400_tp⟩ := hQ400
  replace NF := Fr.app NF Nq400
  clear Nq400
  refine WP.tr st400 ?_
  clear st400
  obtain ⟨h400, e400⟩ : ∃ h, T400.heap = h := ⟨_, rfl⟩
  rw [e400] at Kq400 nF400_a1_nodes nF400_a1_seconds nF400_a1_metres nF400_a1_position nF400_a1_size nA400_tn nA400_ts nA400_tm nA400_tp
  replace E_a1 := E_a1.keep Kq400
  clear F_a1_nodes
  clear F_a1_seconds
  clear F_a1_metres
  clear F_a1_position
  clear F_a1_size
  clear V_tn
  clear V_ts
  clear V_tm
  clear V_tp
  replace Z0 := Nat.le_trans Z0 Kq400.1
  replace KP := KP.trans Kq400 (allS (Or.inl (List.mem_of_getElem? (i := 0) rfl)) (allS (Or.inl (List.mem_of_getElem? (i := 1) rfl)) (allS (Or.inl (List.mem_of_getElem? (i := 2) rfl)) (allS (Or.inl (List.mem_of_getElem? (i := 3) rfl)) (allS (Or.inl (List.mem_of_getElem? (i := 4) rfl)) all0)))))
  clear Kq400
  have F_a1_nodes := nF400_a1_nodes
  clear nF400_a1_nodes
  have F_a1_seconds := nF400_a1_seconds
  clear nF400_a1_seconds
  have F_a1_metres := nF400_a1_metres
  clear nF400_a1_metres
  have F_a1_position := nF400_a1_position
  clear nF400_a1_position
  have F_a1_size := nF400_a1_size
  clear nF400_a1_size
  have V_tn := nA400_tn
  clear nA400_tn
  have V_ts := nA400_ts
  clear nA400_ts
  have V_tm := nA400_tm
  clear nA400_tm
  have V_tp := nA400_tp
  clear nA400_tp
  show WP p.tables e below _ T400 (mkF m 64 #[.val (.ref a1), .val (.int 0), .val (.double x1), .second, .val (.double x2), .second, .val (.int 2), .val (.int 0)] [])
  subst hG
  obtain ⟨fs, hr, hrun, hended, hW, hsame⟩ := X400.leave (v := none) (fun _ => rfl)
  refine WP.fin ⟨_, _, ?_, hrun, hended, _, _, rfl, ?_, ⟨_, rfl⟩, hW, hsame.mono (by decide) (by decide)⟩
  · exact X400.returnOut hx Bd.returns (hb hby d6_64) hr
  · show Q6t41 Z a1 x1 x2 tn ts tm tp kn ks km kp nd1 nd2 y1 s1 s2 y2 m1 m2 p0 p1 p2 u_size h0 n0 _ T400.heap _
    rw [e400]
    exact ⟨rfl, NF, KP, F_a1_nodes, F_a1_seconds, F_a1_metres, F_a1_position, F_a1_size, V_tn, V_ts, V_tm, V_tp⟩
theorem ef_5t40 (m : MethodId) (z0 : Addr) (z2 : UInt64) (z3 : UInt64) : entryFrame m #[(.ref z0), (.int 0), (.double z2), (.double z3)] 7 = mkF m 0 #[.val (.ref z0), .val (.int 0), .val (.double z2), .second, .val (.double z3), .second, .unset] [] := by
  all_goals first | (simp [entryFrame, mkF, argsToLocals, Value.category]; done) | rfl
def Q5t40 (Z : State) (a1 : Addr) (x1 : UInt64) (x2 : UInt64) (tn : Addr) (ts : Addr) (tm : Addr) (tp : Addr) (kn : ClassId) (ks : ClassId) (km : ClassId) (kp : ClassId) (nd1 : Value) (nd2 : Value) (y1 : UInt64) (s1 : Value) (s2 : Value) (y2 : UInt64) (m1 : Value) (m2 : Value) (p1 : Value) (p2 : Value) (h0 : Heap) (n0 : Nat) (v : Option Value) (h : Heap) (L : List Loc) : Prop := v = none ∧ Fr n0 L ∧ Keep h0 h [a1, tn, ts, tm, tp] ∧ Fld Z h a1 "com/example/tandemcab/tandemcab/NodeQueue" "nodes" "[I" (.ref tn) ∧ Fld Z h a1 "com/example/tandemcab/tandemcab/NodeQueue" "seconds" "[D" (.ref ts) ∧ Fld Z h a1 "com/example/tandemcab/tandemcab/NodeQueue" "metres" "[D" (.ref tm) ∧ Fld Z h a1 "com/example/tandemcab/tandemcab/NodeQueue" "position" "[I" (.ref tp) ∧ Fld Z h a1 "com/example/tandemcab/tandemcab/NodeQueue" "size" "I" (.int 3) ∧ (Arv Z h tn kn .int (3 : Int32) [(.int 1), nd1, (.int 0)] (.int 0)) ∧ (Arv Z h ts ks .double (3 : Int32) [(.double y1), s1, (.double x1)] (.double 0)) ∧ (Arv Z h tm km .double (3 : Int32) [(.double y2), m1, (.double x2)] (.double 0)) ∧ (Arv Z h tp kp .int (3 : Int32) [(.int 3), p1, p2] (.int 0))
set_option maxRecDepth 65536 in
set_option maxHeartbeats 40000000 in
theorem rm5t40 (l : Launch) (Z : State) (a0 : Array Value) (hw : ∀ d ∈ tables_1, d.before a0 Z = true) (wsC : List Jvm.Cond) (a1 : Addr) (x1 : UInt64) (x2 : UInt64) (tn : Addr) (ts : Addr) (tm : Addr) (tp : Addr) (kn : ClassId) (ks : ClassId) (km : ClassId) (kp : ClassId) (nd1 : Value) (nd2 : Value) (y1 : UInt64) (s1 : Value) (s2 : Value) (y2 : UInt64) (m1 : Value) (m2 : Value) (p1 : Value) (p2 : Value) (h0 : Heap) (n0 : Nat) (Z0 : n0 ≤ h0.size) (E_a1 : Exa Z h0 a1 "com/example/tandemcab/tandemcab/NodeQueue") (F_a1_nodes : Fld Z h0 a1 "com/example/tandemcab/tandemcab/NodeQueue" "nodes" "[I" (.ref tn)) (F_a1_seconds : Fld Z h0 a1 "com/example/tandemcab/tandemcab/NodeQueue" "seconds" "[D" (.ref ts)) (F_a1_metres : Fld Z h0 a1 "com/example/tandemcab/tandemcab/NodeQueue" "metres" "[D" (.ref tm)) (F_a1_position : Fld Z h0 a1 "com/example/tandemcab/tandemcab/NodeQueue" "position" "[I" (.ref tp)) (F_a1_size : Fld Z h0 a1 "com/example/tandemcab/tandemcab/NodeQueue" "size" "I" (.int 2)) (V_tn : Arv Z h0 tn kn .int (3 : Int32) [(.int 1), nd1, nd2] (.int 0)) (V_ts : Arv Z h0 ts ks .double (3 : Int32) [(.double y1), s1, s2] (.double 0)) (V_tm : Arv Z h0 tm km .double (3 : Int32) [(.double y2), m1, m2] (.double 0)) (V_tp : Arv Z h0 tp kp .int (3 : Int32) [(.int 0), p1, p2] (.int 0)) (g_a1 : n0 ≤ a1) (g_tn : n0 ≤ tn) (g_ts : n0 ≤ ts) (g_tm : n0 ≤ tm) (g_tp : n0 ≤ tp) (ne_a1_tn : a1 ≠ tn) (ne_a1_ts : a1 ≠ ts) (ne_a1_tm : a1 ≠ tm) (ne_a1_tp : a1 ≠ tp) (ne_tn_ts : tn ≠ ts) (ne_tn_tm : tn ≠ tm) (ne_tn_tp : tn ≠ tp) (ne_ts_tm : ts ≠ tm) (ne_ts_tp : ts ≠ tp) (ne_tm_tp : tm ≠ tp) (hbef : (own_before x1 x2 y1 y2) = (0 : Int32)) :
    MetFree l (⟨"com/example/tandemcab/tandemcab/NodeQueue", "offer", "(IDD)V"⟩ : MethodName) (head1 (Jvm.Cond.code (⟨"com/example/tandemcab/tandemcab/NodeQueue", "offer", "(IDD)V"⟩ : MethodName) prog_49_method_5_code 7 none :: wsC) ({ frames := 2, cells := 0, slots := 0, locals := 38 } : Room)) (fun a U => a = #[(.ref a1), (.int 0), (.double x1), (.double x2)] ∧ Z.Warmed39 U.vm ∧ U.heap = h0) (fun _ _ _ _ _ => True) (fun _ U o U' => ∃ v L, o = .returned v ∧ Q5t40 Z a1 x1 x2 tn ts tm tp kn ks km kp nd1 nd2 y1 s1 s2 y2 m1 m2 p1 p2 h0 n0 v U'.heap L ∧ FrameEnd U o U' L ({ frames := 2, cells := 0, slots := 0, locals := 38 } : Room).cells ({ frames := 2, cells := 0, slots := 0, locals := 38 } : Room).slots) := by
  refine MetFree.of_bodySF (plainFor_of_name pn_0) hisR ?_
  intro p e s m args below meth c s₁ Bd hml0 hP hK
  obtain ⟨rfl, hZ, hh⟩ := hP
  have hx := Bd.exec
  have hby := Bd.bytes
  have hml : c.maxLocals = 7 := hml0
  have hown : s.vm.findClass "com/example/tandemcab/tandemcab/NodeQueue" = some m.cls := findClass_of_methodNamed Bd.named
  have hnm := (name_of_methodNamed Bd.named Bd.method).1
  have X0 : Stand p l e ({ frames := 2, cells := 0, slots := 0, locals := 38 } : Room) s m #[(.ref a1), (.int 0), (.double x1), (.double x2)] below meth c s₁ [] 0 0 := Stand.of_body Bd
  have e0 : s₁.heap = h0 := by rw [← hh, Bd.state]; rfl
  have NF := Fr.nil n0
  have KP : Keep h0 h0 [a1, tn, ts, tm, tp] := Keep.refl h0 _
  refine WP.go ?_
  refine WP.cast (ef_5t40 m a1 x1 x2) ?_
  refine WP.name ?_
  intro G hG
  refine WP.st (T' := s₁) (f' := (mkF m 1 #[.val (.ref a1), .val (.int 0), .val (.double x1), .second, .val (.double x2), .second, .unset] [(.ref a1)])) (fun t k => ?_) ?_
  · refine XS.aloadN X0.here hx rfl (hb hby d5_0) rfl rfl ?_
    exact k
  obtain ⟨T401, X401, e401, st401⟩ := getF X0 hx hZ hown (host := "") (Or.inl (w_17 hw)) Via.refl e0 F_a1_position (g := (mkF m 1 #[.val (.ref a1), .val (.int 0), .val (.double x1), .second, .val (.double x2), .second, .unset] [(.ref a1)])) rfl rfl (hb hby d5_1)
  refine WP.st st401 ?_
  clear st401
  show WP p.tables e below _ T401 (mkF m 4 #[.val (.ref a1), .val (.int 0), .val (.double x1), .second, .val (.double x2), .second, .unset] [(.ref tp)])
  refine WP.st (T' := T401) (f' := (mkF m 5 #[.val (.ref a1), .val (.int 0), .val (.double x1), .second, .val (.double x2), .second, .unset] [(.int 0), (.ref tp)])) (fun t k => ?_) ?_
  · refine XS.iloadN X401.here hx rfl (hb hby d5_4) rfl ?_
    exact k
  obtain ⟨cl402, Ar402, hin402, hat402, -⟩ := V_tp.rd (j := (0 : Int32)) ⟨by decide, by decide⟩
  replace hat402 : cl402.slots[((0 : Int32)).toNatClampNeg]? = some (.int 0) := hat402
  refine WP.st (T' := T401) (f' := (mkF m 8 #[.val (.ref a1), .val (.int 0), .val (.double x1), .second, .val (.double x2), .second, .unset] [(.int ((0 : Int32) - (1 : Int32)))])) (fun t k => ?_) ?_
  · refine X401.iaload hx (j := (0 : Int32)) (v := (.int 0)) (by rw [e401]; exact Ar402.1) (State.isArrayOf_alike hZ.alike Ar402.2.1) Ar402.2.2 hin402 hat402 (g := (mkF m 5 #[.val (.ref a1), .val (.int 0), .val (.double x1), .second, .val (.double x2), .second, .unset] [(.int 0), (.ref tp)])) rfl rfl (hb hby d5_5) _ ?_
    refine XS.iconst X401.here hx rfl (hb hby d5_6) ?_
    refine XS.isub X401.here hx rfl (hb hby d5_7) rfl ?_
    exact k
  rw [show ((0 : Int32) - (1 : Int32)) = (-1 : Int32) from by decide]
  show WP p.tables e below _ T401 (mkF m 8 #[.val (.ref a1), .val (.int 0), .val (.double x1), .second, .val (.double x2), .second, .unset] [(.int (-1))])
  refine WP.st (T' := T401) (f' := (mkF m 22 #[.val (.ref a1), .val (.int 0), .val (.double x1), .second, .val (.double x2), .second, .val (.int (-1))] [(.ref a1), (.ref a1), (.double x2), (.double x1), (.int 0), (.ref a1)])) (fun t k => ?_) ?_
  · refine XS.istore X401.here hx rfl (hb hby d5_8) rfl (l' := #[.val (.ref a1), .val (.int 0), .val (.double x1), .second, .val (.double x2), .second, .val (.int (-1))]) rfl ?_
    refine XS.iload X401.here hx rfl (hb hby d5_10) rfl ?_
    refine XS.ifNo X401.here hx rfl (hb hby d5_12) rfl ((if0 _ _).trans (tlt (by decide : (-1 : Int32) < (0 : Int32))).2.1) ?_
    refine XS.aloadN X401.here hx rfl (hb hby d5_15) rfl rfl ?_
    refine XS.iloadN X401.here hx rfl (hb hby d5_16) rfl ?_
    refine XS.dloadN X401.here hx rfl (hb hby d5_17) rfl ?_
    refine XS.dload X401.here hx rfl (hb hby d5_18) rfl ?_
    refine XS.aloadN X401.here hx rfl (hb hby d5_20) rfl rfl ?_
    show Steps p.tables e below (T401.setTop (mkF m 21 #[.val (.ref a1), .val (.int 0), .val (.double x1), .second, .val (.double x2), .second, .val (.int (-1))] [(.ref a1), (.double x2), (.double x1), (.int 0), (.ref a1)])) t
    refine XS.dup X401.here hx rfl (hb hby d5_21) rfl rfl ?_
    exact k
  obtain ⟨T403, X403, e403, st403⟩ := getF X401 hx hZ hown (host := "") (Or.inl (w_24 hw)) Via.refl e401 F_a1_size (g := (mkF m 22 #[.val (.ref a1), .val (.int 0), .val (.double x1), .second, .val (.double x2), .second, .val (.int (-1))] [(.ref a1), (.ref a1), (.double x2), (.double x1), (.int 0), (.ref a1)])) rfl rfl (hb hby d5_22)
  refine WP.st st403 ?_
  clear st403
  show WP p.tables e below _ T403 (mkF m 25 #[.val (.ref a1), .val (.int 0), .val (.double x1), .second, .val (.double x2), .second, .val (.int (-1))] [(.int 2), (.ref a1), (.double x2), (.double x1), (.int 0), (.ref a1)])
  refine WP.st (T' := T403) (f' := (mkF m 28 #[.val (.ref a1), .val (.int 0), .val (.double x1), .second, .val (.double x2), .second, .val (.int (-1))] [(.int ((2 : Int32) + (1 : Int32))), (.ref a1), (.int 2), (.double x2), (.double x1), (.int 0), (.ref a1)])) (fun t k => ?_) ?_
  · refine XS.dupX1 X403.here hx rfl (hb hby d5_25) rfl rfl rfl ?_
    refine XS.iconst X403.here hx rfl (hb hby d5_26) ?_
    refine XS.iadd X403.here hx rfl (hb hby d5_27) rfl ?_
    exact k
  rw [show ((2 : Int32) + (1 : Int32)) = (3 : Int32) from by decide]
  show WP p.tables e below _ T403 (mkF m 28 #[.val (.ref a1), .val (.int 0), .val (.double x1), .second, .val (.double x2), .second, .val (.int (-1))] [(.int 3), (.ref a1), (.int 2), (.double x2), (.double x1), (.int 0), (.ref a1)])
  obtain ⟨T404, h404, X404, e404, W404, st404⟩ := putF X403 hx hZ hown (host := "") (Or.inl (w_24 hw)) Via.refl e403 F_a1_size E_a1 (Or.inl (w_25 hw)) (w_1 hw) (ty := .int) (by decide) rfl rfl (g := (mkF m 28 #[.val (.ref a1), .val (.int 0), .val (.double x1), .second, .val (.double x2), .second, .val (.int (-1))] [(.int 3), (.ref a1), (.int 2), (.double x2), (.double x1), (.int 0), (.ref a1)])) rfl rfl (hb hby d5_28)
  refine WP.st st404 ?_
  clear st404
  replace E_a1 := E_a1.wr W404
  replace F_a1_nodes := F_a1_nodes.other W404 (Or.inr (sn_16 hw))
  replace F_a1_seconds := F_a1_seconds.other W404 (Or.inr (sn_17 hw))
  replace F_a1_metres := F_a1_metres.other W404 (Or.inr (sn_18 hw))
  replace F_a1_position := F_a1_position.other W404 (Or.inr (sn_19 hw))
  replace F_a1_size := F_a1_size.same W404
  replace V_tn := V_tn.other W404 (Ne.symm ne_a1_tn)
  replace V_ts := V_ts.other W404 (Ne.symm ne_a1_ts)
  replace V_tm := V_tm.other W404 (Ne.symm ne_a1_tm)
  replace V_tp := V_tp.other W404 (Ne.symm ne_a1_tp)
  replace Z0 := Nat.le_trans Z0 (Keep.of_wr W404).1
  replace KP := KP.wr W404 (Or.inl (List.mem_of_getElem? (i := 0) rfl))
  replace NF := Fr.snoc X404 NF g_a1
  clear W404
  show WP p.tables e below _ T404 (mkF m 31 #[.val (.ref a1), .val (.int 0), .val (.double x1), .second, .val (.double x2), .second, .val (.int (-1))] [(.int 2), (.double x2), (.double x1), (.int 0), (.ref a1)])
  obtain ⟨cq405, q405, q405'⟩ := E_a1.cell
  obtain ⟨_, _, ⟨T405, L405, k405, n405⟩, -, X405, ⟨Lc405, hQ405, l405, y405, z405⟩, st405⟩ := X404.privateBack hx (y := (⟨"com/example/tandemcab/tandemcab/NodeQueue", "up", "(IDDI)V"⟩ : MethodName)) hown (mvT hZ (w_37 hw)) (mvT hZ (w_38 hw)) (ownSel (y := (⟨"com/example/tandemcab/tandemcab/NodeQueue", "up", "(IDDI)V"⟩ : MethodName)) (mvT hZ (w_22 hw)) rfl (Cond.privateMethod_at (mvP hZ (w_39 hw) (args := #[]))) (mvT hZ (w_38 hw)) (by decide)) (Cond.privateMethod_at (mvP hZ (w_39 hw) (args := #[]))) (mvT hZ (w_40 hw)) (by decide) (backOf (W := 0) (rm6t41 l Z a0 hw [] a1 x1 x2 tn ts tm tp kn ks km kp nd1 nd2 y1 s1 s2 y2 m1 m2 (.int 0) p1 p2 (3 : Int32) h404 n0 Z0 E_a1 F_a1_nodes F_a1_seconds F_a1_metres F_a1_position F_a1_size V_tn V_ts V_tm V_tp g_a1 g_tn g_ts g_tm g_tp ne_a1_tn ne_a1_ts ne_a1_tm ne_a1_tp ne_tn_ts ne_tn_tm ne_tn_tp ne_ts_tm ne_ts_tp ne_tm_tp hbef) hZ (w_40 hw) (w_2 hw) (by decide) (by decide)) (g := (mkF m 31 #[.val (.ref a1), .val (.int 0), .val (.double x1), .second, .val (.double x2), .second, .val (.int (-1))] [(.int 2), (.double x2), (.double x1), (.int 0), (.ref a1)])) rfl (by rw [hml]; rfl) (Steps.refl _) (a := a1) (by rw [e404]; exact q405) q405' (argsL := [(.int 0), (.double x1), (.double x2), (.int 2)]) (rest := []) (lenOf pd_2 rfl) rfl (by show 2 * 0 + _ ≤ _; exact Nat.le_of_eq rfl) (hb hby d5_31) (fun _ _ => ⟨rfl, e404, (by decide : 0 + 0 ≤ _), (by decide : 0 + 0 ≤ _)⟩)
  dsimp only [Pt.U, Pt.locs, Pt.cells, Pt.slots] at X405 l405 y405 z405 st405 hQ405
  subst l405 y405 z405
  obtain ⟨rfl, Nq405, Kq405, nF405_a1_nodes, nF405_a1_seconds, nF405_a1_metres, nF405_a1_position, nF405_a1_size, nA405_tn, nA405_ts, nA405_tm, nA405_tp⟩ := hQ405
  replace NF := Fr.app NF Nq405
  clear Nq405
  refine WP.tr st405 ?_
  clear st405
  obtain ⟨h405, e405⟩ : ∃ h, T405.heap = h := ⟨_, rfl⟩
  rw [e405] at Kq405 nF405_a1_nodes nF405_a1_seconds nF405_a1_metres nF405_a1_position nF405_a1_size nA405_tn nA405_ts nA405_tm nA405_tp
  replace E_a1 := E_a1.keep Kq405
  clear F_a1_nodes
  clear F_a1_seconds
  clear F_a1_metres
  clear F_a1_position
  clear F_a1_size
  clear V_tn
  clear V_ts
  clear V_tm
  clear V_tp
  replace Z0 := Nat.le_trans Z0 Kq405.1
  replace KP := KP.trans Kq405 (allS (Or.inl (List.mem_of_getElem? (i := 0) rfl)) (allS (Or.inl (List.mem_of_getElem? (i := 1) rfl)) (allS (Or.inl (List.mem_of_getElem? (i := 2) rfl)) (allS (Or.inl (List.mem_of_getElem? (i := 3) rfl)) (allS (Or.inl (List.mem_of_getElem? (i := 4) rfl)) all0)))))
  clear Kq405
  have F_a1_nodes := nF405_a1_nodes
  clear nF405_a1_nodes
  have F_a1_seconds := nF405_a1_seconds
  clear nF405_a1_seconds
  have F_a1_metres := nF405_a1_metres
  clear nF405_a1_metres
  have F_a1_position := nF405_a1_position
  clear nF405_a1_position
  have F_a1_size := nF405_a1_size
  clear nF405_a1_size
  have V_tn := nA405_tn
  clear nA405_tn
  have V_ts := nA405_ts
  clear nA405_ts
  have V_tm := nA405_tm
  clear nA405_tm
  have V_tp := nA405_tp
  clear nA405_tp
  show WP p.tables e below _ T405 (mkF m 34 #[.val (.ref a1), .val (.int 0), .val (.double x1), .second, .val (.double x2), .second, .val (.int (-1))] [])
  refine WP.st (T' := T405) (f' := (mkF m 83 #[.val (.ref a1), .val (.int 0), .val (.double x1), .second, .val (.double x2), .second, .val (.int (-1))] [])) (fun t k => ?_) ?_
  · refine XS.goto X405.here hx rfl (pc0 := 34) (pc' := 83) rfl (hb hby d5_34) (by decide) (by decide) ?_
    exact k
  subst hG
  obtain ⟨fs, hr, hrun, hended, hW, hsame⟩ := X405.leave (v := none) (fun _ => rfl)
  refine WP.fin ⟨_, _, ?_, hrun, hended, _, _, rfl, ?_, ⟨_, rfl⟩, hW, hsame.mono (by decide) (by decide)⟩
  · exact X405.returnOut hx Bd.returns (hb hby d5_83) hr
  · show Q5t40 Z a1 x1 x2 tn ts tm tp kn ks km kp nd1 nd2 y1 s1 s2 y2 m1 m2 p1 p2 h0 n0 _ T405.heap _
    rw [e405]
    exact ⟨rfl, NF, KP, F_a1_nodes, F_a1_seconds, F_a1_metres, F_a1_position, F_a1_size, V_tn, V_ts, V_tm, V_tp⟩
theorem ef_3t42 (m : MethodId) (z0 : Addr) : entryFrame m #[(.ref z0)] 2 = mkF m 0 #[.val (.ref z0), .unset] [] := by
  all_goals first | (simp [entryFrame, mkF, argsToLocals, Value.category]; done) | rfl
def Q3t42 (Z : State) (a1 : Addr) (tn : Addr) (ts : Addr) (tm : Addr) (tp : Addr) (kn : ClassId) (ks : ClassId) (km : ClassId) (kp : ClassId) (s0 : Value) (s1 : Value) (s2 : Value) (m0 : Value) (m1 : Value) (m2 : Value) (p0 : Value) (p1 : Value) (p2 : Value) (h0 : Heap) (n0 : Nat) (v : Option Value) (h : Heap) (L : List Loc) : Prop := v = none ∧ Fr n0 L ∧ Keep h0 h [a1, tn, ts, tm, tp] ∧ Fld Z h a1 "com/example/tandemcab/tandemcab/NodeQueue" "nodes" "[I" (.ref tn) ∧ Fld Z h a1 "com/example/tandemcab/tandemcab/NodeQueue" "seconds" "[D" (.ref ts) ∧ Fld Z h a1 "com/example/tandemcab/tandemcab/NodeQueue" "metres" "[D" (.ref tm) ∧ Fld Z h a1 "com/example/tandemcab/tandemcab/NodeQueue" "position" "[I" (.ref tp) ∧ Fld Z h a1 "com/example/tandemcab/tandemcab/NodeQueue" "size" "I" (.int 0) ∧ (Arv Z h tn kn .int (3 : Int32) [(.int 1), (.int 2), (.int 0)] (.int 0)) ∧ (Arv Z h ts ks .double (3 : Int32) [s0, s1, s2] (.double 0)) ∧ (Arv Z h tm km .double (3 : Int32) [m0, m1, m2] (.double 0)) ∧ (Arv Z h tp kp .int (3 : Int32) [(.int 0), (.int 0), (.int 0)] (.int 0))
set_option maxRecDepth 65536 in
set_option maxHeartbeats 40000000 in
theorem rm3t42 (l : Launch) (Z : State) (a0 : Array Value) (hw : ∀ d ∈ tables_1, d.before a0 Z = true) (wsC : List Jvm.Cond) (a1 : Addr) (tn : Addr) (ts : Addr) (tm : Addr) (tp : Addr) (kn : ClassId) (ks : ClassId) (km : ClassId) (kp : ClassId) (s0 : Value) (s1 : Value) (s2 : Value) (m0 : Value) (m1 : Value) (m2 : Value) (p0 : Value) (p1 : Value) (p2 : Value) (h0 : Heap) (n0 : Nat) (Z0 : n0 ≤ h0.size) (E_a1 : Exa Z h0 a1 "com/example/tandemcab/tandemcab/NodeQueue") (F_a1_nodes : Fld Z h0 a1 "com/example/tandemcab/tandemcab/NodeQueue" "nodes" "[I" (.ref tn)) (F_a1_seconds : Fld Z h0 a1 "com/example/tandemcab/tandemcab/NodeQueue" "seconds" "[D" (.ref ts)) (F_a1_metres : Fld Z h0 a1 "com/example/tandemcab/tandemcab/NodeQueue" "metres" "[D" (.ref tm)) (F_a1_position : Fld Z h0 a1 "com/example/tandemcab/tandemcab/NodeQueue" "position" "[I" (.ref tp)) (F_a1_size : Fld Z h0 a1 "com/example/tandemcab/tandemcab/NodeQueue" "size" "I" (.int 3)) (V_tn : Arv Z h0 tn kn .int (3 : Int32) [(.int 1), (.int 2), (.int 0)] (.int 0)) (V_ts : Arv Z h0 ts ks .double (3 : Int32) [s0, s1, s2] (.double 0)) (V_tm : Arv Z h0 tm km .double (3 : Int32) [m0, m1, m2] (.double 0)) (V_tp : Arv Z h0 tp kp .int (3 : Int32) [p0, p1, p2] (.int 0)) (g_a1 : n0 ≤ a1) (g_tn : n0 ≤ tn) (g_ts : n0 ≤ ts) (g_tm : n0 ≤ tm) (g_tp : n0 ≤ tp) (ne_a1_tn : a1 ≠ tn) (ne_a1_ts : a1 ≠ ts) (ne_a1_tm : a1 ≠ tm) (ne_a1_tp : a1 ≠ tp) (ne_tn_ts : tn ≠ ts) (ne_tn_tm : tn ≠ tm) (ne_tn_tp : tn ≠ tp) (ne_ts_tm : ts ≠ tm) (ne_ts_tp : ts ≠ tp) (ne_tm_tp : tm ≠ tp) :
    MetFree l (⟨"com/example/tandemcab/tandemcab/NodeQueue", "clear", "()V"⟩ : MethodName) (head1 (Jvm.Cond.code (⟨"com/example/tandemcab/tandemcab/NodeQueue", "clear", "()V"⟩ : MethodName) prog_49_method_3_code 2 none :: wsC) ({ frames := 0, cells := 0, slots := 0, locals := 0 } : Room)) (fun a U => a = #[(.ref a1)] ∧ Z.Warmed39 U.vm ∧ U.heap = h0) (fun _ _ _ _ _ => True) (fun _ U o U' => ∃ v L, o = .returned v ∧ Q3t42 Z a1 tn ts tm tp kn ks km kp s0 s1 s2 m0 m1 m2 p0 p1 p2 h0 n0 v U'.heap L ∧ FrameEnd U o U' L ({ frames := 0, cells := 0, slots := 0, locals := 0 } : Room).cells ({ frames := 0, cells := 0, slots := 0, locals := 0 } : Room).slots) := by
  refine MetFree.of_bodySF (plainFor_of_name pn_0) hisR ?_
  intro p e s m args below meth c s₁ Bd hml0 hP hK
  obtain ⟨rfl, hZ, hh⟩ := hP
  have hx := Bd.exec
  have hby := Bd.bytes
  have hml : c.maxLocals = 2 := hml0
  have hown : s.vm.findClass "com/example/tandemcab/tandemcab/NodeQueue" = some m.cls := findClass_of_methodNamed Bd.named
  have hnm := (name_of_methodNamed Bd.named Bd.method).1
  have X0 : Stand p l e ({ frames := 0, cells := 0, slots := 0, locals := 0 } : Room) s m #[(.ref a1)] below meth c s₁ [] 0 0 := Stand.of_body Bd
  have e0 : s₁.heap = h0 := by rw [← hh, Bd.state]; rfl
  have NF := Fr.nil n0
  have KP : Keep h0 h0 [a1, tn, ts, tm, tp] := Keep.refl h0 _
  refine WP.go ?_
  refine WP.cast (ef_3t42 m a1) ?_
  refine WP.name ?_
  intro G hG
  refine WP.st (T' := s₁) (f' := (mkF m 4 #[.val (.ref a1), .val (.int 0)] [(.ref a1), (.int 0)])) (fun t k => ?_) ?_
  · refine XS.iconst X0.here hx rfl (hb hby d3_0) ?_
    refine XS.istoreN X0.here hx rfl (hb hby d3_1) rfl (l' := #[.val (.ref a1), .val (.int 0)]) rfl ?_
    refine XS.iloadN X0.here hx rfl (hb hby d3_2) rfl ?_
    refine XS.aloadN X0.here hx rfl (hb hby d3_3) rfl rfl ?_
    exact k
  obtain ⟨T407, X407, e407, st407⟩ := getF X0 hx hZ hown (host := "") (Or.inl (w_24 hw)) Via.refl e0 F_a1_size (g := (mkF m 4 #[.val (.ref a1), .val (.int 0)] [(.ref a1), (.int 0)])) rfl rfl (hb hby d3_4)
  refine WP.st st407 ?_
  clear st407
  show WP p.tables e below _ T407 (mkF m 7 #[.val (.ref a1), .val (.int 0)] [(.int 3), (.int 0)])
  refine WP.st (T' := T407) (f' := (mkF m 11 #[.val (.ref a1), .val (.int 0)] [(.ref a1)])) (fun t k => ?_) ?_
  · refine XS.icmpNo X407.here hx rfl (hb hby d3_7) rfl (tlt (by decide : (0 : Int32) < (3 : Int32))).2.1 ?_
    refine XS.aloadN X407.here hx rfl (hb hby d3_10) rfl rfl ?_
    exact k
  obtain ⟨T408, X408, e408, st408⟩ := getF X407 hx hZ hown (host := "") (Or.inl (w_17 hw)) Via.refl e407 F_a1_position (g := (mkF m 11 #[.val (.ref a1), .val (.int 0)] [(.ref a1)])) rfl rfl (hb hby d3_11)
  refine WP.st st408 ?_
  clear st408
  show WP p.tables e below _ T408 (mkF m 14 #[.val (.ref a1), .val (.int 0)] [(.ref tp)])
  refine WP.st (T' := T408) (f' := (mkF m 15 #[.val (.ref a1), .val (.int 0)] [(.ref a1), (.ref tp)])) (fun t k => ?_) ?_
  · refine XS.aloadN X408.here hx rfl (hb hby d3_14) rfl rfl ?_
    exact k
  obtain ⟨T409, X409, e409, st409⟩ := getF X408 hx hZ hown (host := "") (Or.inl (w_10 hw)) Via.refl e408 F_a1_nodes (g := (mkF m 15 #[.val (.ref a1), .val (.int 0)] [(.ref a1), (.ref tp)])) rfl rfl (hb hby d3_15)
  refine WP.st st409 ?_
  clear st409
  show WP p.tables e below _ T409 (mkF m 18 #[.val (.ref a1), .val (.int 0)] [(.ref tn), (.ref tp)])
  refine WP.st (T' := T409) (f' := (mkF m 19 #[.val (.ref a1), .val (.int 0)] [(.int 0), (.ref tn), (.ref tp)])) (fun t k => ?_) ?_
  · refine XS.iloadN X409.here hx rfl (hb hby d3_18) rfl ?_
    exact k
  obtain ⟨cl410, Ar410, hin410, hat410, -⟩ := V_tn.rd (j := (0 : Int32)) ⟨by decide, by decide⟩
  replace hat410 : cl410.slots[((0 : Int32)).toNatClampNeg]? = some (.int 1) := hat410
  refine WP.st (T' := T409) (f' := (mkF m 21 #[.val (.ref a1), .val (.int 0)] [(.int 0), (.int 1), (.ref tp)])) (fun t k => ?_) ?_
  · refine X409.iaload hx (j := (0 : Int32)) (v := (.int 1)) (by rw [e409]; exact Ar410.1) (State.isArrayOf_alike hZ.alike Ar410.2.1) Ar410.2.2 hin410 hat410 (g := (mkF m 19 #[.val (.ref a1), .val (.int 0)] [(.int 0), (.ref tn), (.ref tp)])) rfl rfl (hb hby d3_19) _ ?_
    refine XS.iconst X409.here hx rfl (hb hby d3_20) ?_
    exact k
  obtain ⟨cl411, Ar411, q411, S411, N411, H411, G411⟩ := V_tp
  have hin411 : ¬ ((1 : Int32) < 0 ∨ cl411.slots.size ≤ ((1 : Int32)).toNatClampNeg) := inb_of S411 ⟨by decide, by decide⟩
  obtain ⟨T412, h412, X412, e412, W412, st412⟩ := stI X409 hx hZ e409 Ar411 (j := (1 : Int32)) hin411 (g := (mkF m 21 #[.val (.ref a1), .val (.int 0)] [(.int 0), (.int 1), (.ref tp)])) rfl rfl (hb hby d3_21)
  refine WP.st st412 ?_
  clear st412
  have Vn : Arv Z h412 tp kp .int (3 : Int32) [p0, (.int 0), p2] (.int 0) := Arv.set Ar411 q411 S411 N411 H411 G411 rfl W412 1 rfl (Nat.le_of_ble_eq_true rfl)
  replace E_a1 := E_a1.wr W412
  replace F_a1_nodes := F_a1_nodes.other W412 (Or.inl ne_a1_tp)
  replace F_a1_seconds := F_a1_seconds.other W412 (Or.inl ne_a1_tp)
  replace F_a1_metres := F_a1_metres.other W412 (Or.inl ne_a1_tp)
  replace F_a1_position := F_a1_position.other W412 (Or.inl ne_a1_tp)
  replace F_a1_size := F_a1_size.other W412 (Or.inl ne_a1_tp)
  replace V_tn := V_tn.other W412 ne_tn_tp
  replace V_ts := V_ts.other W412 ne_ts_tp
  replace V_tm := V_tm.other W412 ne_tm_tp
  replace Z0 := Nat.le_trans Z0 (Keep.of_wr W412).1
  replace KP := KP.wr W412 (Or.inl (List.mem_of_getElem? (i := 4) rfl))
  replace V_tp := Vn
  replace NF := Fr.snoc X412 NF g_tp
  clear W412 hin411 q411 S411 N411 H411 G411 Ar411
  show WP p.tables e below _ T412 (mkF m 22 #[.val (.ref a1), .val (.int 0)] [])
  refine WP.st (T' := T412) (f' := (mkF m 25 #[.val (.ref a1), .val (.int ((0 : Int32) + (1 : Int32)))] [])) (fun t k => ?_) ?_
  · refine XS.iinc X412.here hx rfl (hb hby d3_22) rfl (l' := #[.val (.ref a1), .val (.int ((0 : Int32) + (1 : Int32)))]) rfl ?_
    exact k
  rw [show ((0 : Int32) + (1 : Int32)) = (1 : Int32) from by decide]
  show WP p.tables e below _ T412 (mkF m 25 #[.val (.ref a1), .val (.int 1)] [])
  refine WP.st (T' := T412) (f' := (mkF m 4 #[.val (.ref a1), .val (.int 1)] [(.ref a1), (.int 1)])) (fun t k => ?_) ?_
  · refine XS.goto X412.here hx rfl (pc0 := 25) (pc' := 2) rfl (hb hby d3_25) (by decide) (by decide) ?_
    refine XS.iloadN X412.here hx rfl (hb hby d3_2) rfl ?_
    refine XS.aloadN X412.here hx rfl (hb hby d3_3) rfl rfl ?_
    exact k
  obtain ⟨T413, X413, e413, st413⟩ := getF X412 hx hZ hown (host := "") (Or.inl (w_24 hw)) Via.refl e412 F_a1_size (g := (mkF m 4 #[.val (.ref a1), .val (.int 1)] [(.ref a1), (.int 1)])) rfl rfl (hb hby d3_4)
  refine WP.st st413 ?_
  clear st413
  show WP p.tables e below _ T413 (mkF m 7 #[.val (.ref a1), .val (.int 1)] [(.int 3), (.int 1)])
  refine WP.st (T' := T413) (f' := (mkF m 11 #[.val (.ref a1), .val (.int 1)] [(.ref a1)])) (fun t k => ?_) ?_
  · refine XS.icmpNo X413.here hx rfl (hb hby d3_7) rfl (tlt (by decide : (1 : Int32) < (3 : Int32))).2.1 ?_
    refine XS.aloadN X413.here hx rfl (hb hby d3_10) rfl rfl ?_
    exact k
  obtain ⟨T414, X414, e414, st414⟩ := getF X413 hx hZ hown (host := "") (Or.inl (w_17 hw)) Via.refl e413 F_a1_position (g := (mkF m 11 #[.val (.ref a1), .val (.int 1)] [(.ref a1)])) rfl rfl (hb hby d3_11)
  refine WP.st st414 ?_
  clear st414
  show WP p.tables e below _ T414 (mkF m 14 #[.val (.ref a1), .val (.int 1)] [(.ref tp)])
  refine WP.st (T' := T414) (f' := (mkF m 15 #[.val (.ref a1), .val (.int 1)] [(.ref a1), (.ref tp)])) (fun t k => ?_) ?_
  · refine XS.aloadN X414.here hx rfl (hb hby d3_14) rfl rfl ?_
    exact k
  obtain ⟨T415, X415, e415, st415⟩ := getF X414 hx hZ hown (host := "") (Or.inl (w_10 hw)) Via.refl e414 F_a1_nodes (g := (mkF m 15 #[.val (.ref a1), .val (.int 1)] [(.ref a1), (.ref tp)])) rfl rfl (hb hby d3_15)
  refine WP.st st415 ?_
  clear st415
  show WP p.tables e below _ T415 (mkF m 18 #[.val (.ref a1), .val (.int 1)] [(.ref tn), (.ref tp)])
  refine WP.st (T' := T415) (f' := (mkF m 19 #[.val (.ref a1), .val (.int 1)] [(.int 1), (.ref tn), (.ref tp)])) (fun t k => ?_) ?_
  · refine XS.iloadN X415.here hx rfl (hb hby d3_18) rfl ?_
    exact k
  obtain ⟨cl416, Ar416, hin416, hat416, -⟩ := V_tn.rd (j := (1 : Int32)) ⟨by decide, by decide⟩
  replace hat416 : cl416.slots[((1 : Int32)).toNatClampNeg]? = some (.int 2) := hat416
  refine WP.st (T' := T415) (f' := (mkF m 21 #[.val (.ref a1), .val (.int 1)] [(.int 0), (.int 2), (.ref tp)])) (fun t k => ?_) ?_
  · refine X415.iaload hx (j := (1 : Int32)) (v := (.int 2)) (by rw [e415]; exact Ar416.1) (State.isArrayOf_alike hZ.alike Ar416.2.1) Ar416.2.2 hin416 hat416 (g := (mkF m 19 #[.val (.ref a1), .val (.int 1)] [(.int 1), (.ref tn), (.ref tp)])) rfl rfl (hb hby d3_19) _ ?_
    refine XS.iconst X415.here hx rfl (hb hby d3_20) ?_
    exact k
  obtain ⟨cl417, Ar417, q417, S417, N417, H417, G417⟩ := V_tp
  have hin417 : ¬ ((2 : Int32) < 0 ∨ cl417.slots.size ≤ ((2 : Int32)).toNatClampNeg) := inb_of S417 ⟨by decide, by decide⟩
  obtain ⟨T418, h418, X418, e418, W418, st418⟩ := stI X415 hx hZ e415 Ar417 (j := (2 : Int32)) hin417 (g := (mkF m 21 #[.val (.ref a1), .val (.int 1)] [(.int 0), (.int 2), (.ref tp)])) rfl rfl (hb hby d3_21)
  refine WP.st st418 ?_
  clear st418
  have Vn : Arv Z h418 tp kp .int (3 : Int32) [p0, (.int 0), (.int 0)] (.int 0) := Arv.set Ar417 q417 S417 N417 H417 G417 rfl W418 2 rfl (Nat.le_of_ble_eq_true rfl)
  replace E_a1 := E_a1.wr W418
  replace F_a1_nodes := F_a1_nodes.other W418 (Or.inl ne_a1_tp)
  replace F_a1_seconds := F_a1_seconds.other W418 (Or.inl ne_a1_tp)
  replace F_a1_metres := F_a1_metres.other W418 (Or.inl ne_a1_tp)
  replace F_a1_position := F_a1_position.other W418 (Or.inl ne_a1_tp)
  replace F_a1_size := F_a1_size.other W418 (Or.inl ne_a1_tp)
  replace V_tn := V_tn.other W418 ne_tn_tp
  replace V_ts := V_ts.other W418 ne_ts_tp
  replace V_tm := V_tm.other W418 ne_tm_tp
  replace Z0 := Nat.le_trans Z0 (Keep.of_wr W418).1
  replace KP := KP.wr W418 (Or.inl (List.mem_of_getElem? (i := 4) rfl))
  replace V_tp := Vn
  replace NF := Fr.snoc X418 NF g_tp
  clear W418 hin417 q417 S417 N417 H417 G417 Ar417
  show WP p.tables e below _ T418 (mkF m 22 #[.val (.ref a1), .val (.int 1)] [])
  refine WP.st (T' := T418) (f' := (mkF m 25 #[.val (.ref a1), .val (.int ((1 : Int32) + (1 : Int32)))] [])) (fun t k => ?_) ?_
  · refine XS.iinc X418.here hx rfl (hb hby d3_22) rfl (l' := #[.val (.ref a1), .val (.int ((1 : Int32) + (1 : Int32)))]) rfl ?_
    exact k
  rw [show ((1 : Int32) + (1 : Int32)) = (2 : Int32) from by decide]
  show WP p.tables e below _ T418 (mkF m 25 #[.val (.ref a1), .val (.int 2)] [])
  refine WP.st (T' := T418) (f' := (mkF m 4 #[.val (.ref a1), .val (.int 2)] [(.ref a1), (.int 2)])) (fun t k => ?_) ?_
  · refine XS.goto X418.here hx rfl (pc0 := 25) (pc' := 2) rfl (hb hby d3_25) (by decide) (by decide) ?_
    refine XS.iloadN X418.here hx rfl (hb hby d3_2) rfl ?_
    refine XS.aloadN X418.here hx rfl (hb hby d3_3) rfl rfl ?_
    exact k
  obtain ⟨T419, X419, e419, st419⟩ := getF X418 hx hZ hown (host := "") (Or.inl (w_24 hw)) Via.refl e418 F_a1_size (g := (mkF m 4 #[.val (.ref a1), .val (.int 2)] [(.ref a1), (.int 2)])) rfl rfl (hb hby d3_4)
  refine WP.st st419 ?_
  clear st419
  show WP p.tables e below _ T419 (mkF m 7 #[.val (.ref a1), .val (.int 2)] [(.int 3), (.int 2)])
  refine WP.st (T' := T419) (f' := (mkF m 11 #[.val (.ref a1), .val (.int 2)] [(.ref a1)])) (fun t k => ?_) ?_
  · refine XS.icmpNo X419.here hx rfl (hb hby d3_7) rfl (tlt (by decide : (2 : Int32) < (3 : Int32))).2.1 ?_
    refine XS.aloadN X419.here hx rfl (hb hby d3_10) rfl rfl ?_
    exact k
  obtain ⟨T420, X420, e420, st420⟩ := getF X419 hx hZ hown (host := "") (Or.inl (w_17 hw)) Via.refl e419 F_a1_position (g := (mkF m 11 #[.val (.ref a1), .val (.int 2)] [(.ref a1)])) rfl rfl (hb hby d3_11)
  refine WP.st st420 ?_
  clear st420
  show WP p.tables e below _ T420 (mkF m 14 #[.val (.ref a1), .val (.int 2)] [(.ref tp)])
  refine WP.st (T' := T420) (f' := (mkF m 15 #[.val (.ref a1), .val (.int 2)] [(.ref a1), (.ref tp)])) (fun t k => ?_) ?_
  · refine XS.aloadN X420.here hx rfl (hb hby d3_14) rfl rfl ?_
    exact k
  obtain ⟨T421, X421, e421, st421⟩ := getF X420 hx hZ hown (host := "") (Or.inl (w_10 hw)) Via.refl e420 F_a1_nodes (g := (mkF m 15 #[.val (.ref a1), .val (.int 2)] [(.ref a1), (.ref tp)])) rfl rfl (hb hby d3_15)
  refine WP.st st421 ?_
  clear st421
  show WP p.tables e below _ T421 (mkF m 18 #[.val (.ref a1), .val (.int 2)] [(.ref tn), (.ref tp)])
  refine WP.st (T' := T421) (f' := (mkF m 19 #[.val (.ref a1), .val (.int 2)] [(.int 2), (.ref tn), (.ref tp)])) (fun t k => ?_) ?_
  · refine XS.iloadN X421.here hx rfl (hb hby d3_18) rfl ?_
    exact k
  obtain ⟨cl422, Ar422, hin422, hat422, -⟩ := V_tn.rd (j := (2 : Int32)) ⟨by decide, by decide⟩
  replace hat422 : cl422.slots[((2 : Int32)).toNatClampNeg]? = some (.int 0) := hat422
  refine WP.st (T' := T421) (f' := (mkF m 21 #[.val (.ref a1), .val (.int 2)] [(.int 0), (.int 0), (.ref tp)])) (fun t k => ?_) ?_
  · refine X421.iaload hx (j := (2 : Int32)) (v := (.int 0)) (by rw [e421]; exact Ar422.1) (State.isArrayOf_alike hZ.alike Ar422.2.1) Ar422.2.2 hin422 hat422 (g := (mkF m 19 #[.val (.ref a1), .val (.int 2)] [(.int 2), (.ref tn), (.ref tp)])) rfl rfl (hb hby d3_19) _ ?_
    refine XS.iconst X421.here hx rfl (hb hby d3_20) ?_
    exact k
  obtain ⟨cl423, Ar423, q423, S423, N423, H423, G423⟩ := V_tp
  have hin423 : ¬ ((0 : Int32) < 0 ∨ cl423.slots.size ≤ ((0 : Int32)).toNatClampNeg) := inb_of S423 ⟨by decide, by decide⟩
  obtain ⟨T424, h424, X424, e424, W424, st424⟩ := stI X421 hx hZ e421 Ar423 (j := (0 : Int32)) hin423 (g := (mkF m 21 #[.val (.ref a1), .val (.int 2)] [(.int 0), (.int 0), (.ref tp)])) rfl rfl (hb hby d3_21)
  refine WP.st st424 ?_
  clear st424
  have Vn : Arv Z h424 tp kp .int (3 : Int32) [(.int 0), (.int 0), (.int 0)] (.int 0) := Arv.set Ar423 q423 S423 N423 H423 G423 rfl W424 0 rfl (Nat.le_of_ble_eq_true rfl)
  replace E_a1 := E_a1.wr W424
  replace F_a1_nodes := F_a1_nodes.other W424 (Or.inl ne_a1_tp)
  replace F_a1_seconds := F_a1_seconds.other W424 (Or.inl ne_a1_tp)
  replace F_a1_metres := F_a1_metres.other W424 (Or.inl ne_a1_tp)
  replace F_a1_position := F_a1_position.other W424 (Or.inl ne_a1_tp)
  replace F_a1_size := F_a1_size.other W424 (Or.inl ne_a1_tp)
  replace V_tn := V_tn.other W424 ne_tn_tp
  replace V_ts := V_ts.other W424 ne_ts_tp
  replace V_tm := V_tm.other W424 ne_tm_tp
  replace Z0 := Nat.le_trans Z0 (Keep.of_wr W424).1
  replace KP := KP.wr W424 (Or.inl (List.mem_of_getElem? (i := 4) rfl))
  replace V_tp := Vn
  replace NF := Fr.snoc X424 NF g_tp
  clear W424 hin423 q423 S423 N423 H423 G423 Ar423
  show WP p.tables e below _ T424 (mkF m 22 #[.val (.ref a1), .val (.int 2)] [])
  refine WP.st (T' := T424) (f' := (mkF m 25 #[.val (.ref a1), .val (.int ((2 : Int32) + (1 : Int32)))] [])) (fun t k => ?_) ?_
  · refine XS.iinc X424.here hx rfl (hb hby d3_22) rfl (l' := #[.val (.ref a1), .val (.int ((2 : Int32) + (1 : Int32)))]) rfl ?_
    exact k
  rw [show ((2 : Int32) + (1 : Int32)) = (3 : Int32) from by decide]
  show WP p.tables e below _ T424 (mkF m 25 #[.val (.ref a1), .val (.int 3)] [])
  refine WP.st (T' := T424) (f' := (mkF m 4 #[.val (.ref a1), .val (.int 3)] [(.ref a1), (.int 3)])) (fun t k => ?_) ?_
  · refine XS.goto X424.here hx rfl (pc0 := 25) (pc' := 2) rfl (hb hby d3_25) (by decide) (by decide) ?_
    refine XS.iloadN X424.here hx rfl (hb hby d3_2) rfl ?_
    refine XS.aloadN X424.here hx rfl (hb hby d3_3) rfl rfl ?_
    exact k
  obtain ⟨T425, X425, e425, st425⟩ := getF X424 hx hZ hown (host := "") (Or.inl (w_24 hw)) Via.refl e424 F_a1_size (g := (mkF m 4 #[.val (.ref a1), .val (.int 3)] [(.ref a1), (.int 3)])) rfl rfl (hb hby d3_4)
  refine WP.st st425 ?_
  clear st425
  show WP p.tables e below _ T425 (mkF m 7 #[.val (.ref a1), .val (.int 3)] [(.int 3), (.int 3)])
  refine WP.st (T' := T425) (f' := (mkF m 30 #[.val (.ref a1), .val (.int 3)] [(.int 0), (.ref a1)])) (fun t k => ?_) ?_
  · refine XS.icmpYes X425.here hx rfl (pc0 := 7) (pc' := 28) rfl (hb hby d3_7) rfl (flt (by decide : ¬ ((3 : Int32) < (3 : Int32)))).2.1 (by decide) (by decide) ?_
    refine XS.aloadN X425.here hx rfl (hb hby d3_28) rfl rfl ?_
    refine XS.iconst X425.here hx rfl (hb hby d3_29) ?_
    exact k
  obtain ⟨T426, h426, X426, e426, W426, st426⟩ := putF X425 hx hZ hown (host := "") (Or.inl (w_24 hw)) Via.refl e425 F_a1_size E_a1 (Or.inl (w_25 hw)) (w_1 hw) (ty := .int) (by decide) rfl rfl (g := (mkF m 30 #[.val (.ref a1), .val (.int 3)] [(.int 0), (.ref a1)])) rfl rfl (hb hby d3_30)
  refine WP.st st426 ?_
  clear st426
  replace E_a1 := E_a1.wr W426
  replace F_a1_nodes := F_a1_nodes.other W426 (Or.inr (sn_16 hw))
  replace F_a1_seconds := F_a1_seconds.other W426 (Or.inr (sn_17 hw))
  replace F_a1_metres := F_a1_metres.other W426 (Or.inr (sn_18 hw))
  replace F_a1_position := F_a1_position.other W426 (Or.inr (sn_19 hw))
  replace F_a1_size := F_a1_size.same W426
  replace V_tn := V_tn.other W426 (Ne.symm ne_a1_tn)
  replace V_ts := V_ts.other W426 (Ne.symm ne_a1_ts)
  replace V_tm := V_tm.other W426 (Ne.symm ne_a1_tm)
  replace V_tp := V_tp.other W426 (Ne.symm ne_a1_tp)
  replace Z0 := Nat.le_trans Z0 (Keep.of_wr W426).1
  replace KP := KP.wr W426 (Or.inl (List.mem_of_getElem? (i := 0) rfl))
  replace NF := Fr.snoc X426 NF g_a1
  clear W426
  show WP p.tables e below _ T426 (mkF m 33 #[.val (.ref a1), .val (.int 3)] [])
  subst hG
  obtain ⟨fs, hr, hrun, hended, hW, hsame⟩ := X426.leave (v := none) (fun _ => rfl)
  refine WP.fin ⟨_, _, ?_, hrun, hended, _, _, rfl, ?_, ⟨_, rfl⟩, hW, hsame.mono (by decide) (by decide)⟩
  · exact X426.returnOut hx Bd.returns (hb hby d3_33) hr
  · show Q3t42 Z a1 tn ts tm tp kn ks km kp s0 s1 s2 m0 m1 m2 p0 p1 p2 h0 n0 _ T426.heap _
    rw [e426]
    exact ⟨rfl, NF, KP, F_a1_nodes, F_a1_seconds, F_a1_metres, F_a1_position, F_a1_size, V_tn, V_ts, V_tm, V_tp⟩
theorem ef_6t44 (m : MethodId) (z0 : Addr) (z2 : UInt64) (z3 : UInt64) : entryFrame m #[(.ref z0), (.int 0), (.double z2), (.double z3), (.int 2)] 8 = mkF m 0 #[.val (.ref z0), .val (.int 0), .val (.double z2), .second, .val (.double z3), .second, .val (.int 2), .unset] [] := by
  all_goals first | (simp [entryFrame, mkF, argsToLocals, Value.category]; done) | rfl
def Q6t44 (Z : State) (a1 : Addr) (x1 : UInt64) (x2 : UInt64) (tn : Addr) (ts : Addr) (tm : Addr) (tp : Addr) (kn : ClassId) (ks : ClassId) (km : ClassId) (kp : ClassId) (nd1 : Value) (nd2 : Value) (y1 : UInt64) (s1 : Value) (s2 : Value) (y2 : UInt64) (m1 : Value) (m2 : Value) (p0 : Value) (p1 : Value) (p2 : Value) (u_size : Int32) (h0 : Heap) (n0 : Nat) (v : Option Value) (h : Heap) (L : List Loc) : Prop := v = none ∧ Fr n0 L ∧ Keep h0 h [a1, tn, ts, tm, tp] ∧ Fld Z h a1 "com/example/tandemcab/tandemcab/NodeQueue" "nodes" "[I" (.ref tn) ∧ Fld Z h a1 "com/example/tandemcab/tandemcab/NodeQueue" "seconds" "[D" (.ref ts) ∧ Fld Z h a1 "com/example/tandemcab/tandemcab/NodeQueue" "metres" "[D" (.ref tm) ∧ Fld Z h a1 "com/example/tandemcab/tandemcab/NodeQueue" "position" "[I" (.ref tp) ∧ Fld Z h a1 "com/example/tandemcab/tandemcab/NodeQueue" "size" "I" (.int u_size) ∧ (Arv Z h tn kn .int (3 : Int32) [(.int 0), nd1, (.int 1)] (.int 0)) ∧ (Arv Z h ts ks .double (3 : Int32) [(.double x1), s1, (.double y1)] (.double 0)) ∧ (Arv Z h tm km .double (3 : Int32) [(.double x2), m1, (.double y2)] (.double 0)) ∧ (Arv Z h tp kp .int (3 : Int32) [(.int 1), (.int 3), p2] (.int 0))
set_option maxRecDepth 65536 in
set_option maxHeartbeats 40000000 in
theorem rm6t44 (l : Launch) (Z : State) (a0 : Array Value) (hw : ∀ d ∈ tables_1, d.before a0 Z = true) (wsC : List Jvm.Cond) (a1 : Addr) (x1 : UInt64) (x2 : UInt64) (tn : Addr) (ts : Addr) (tm : Addr) (tp : Addr) (kn : ClassId) (ks : ClassId) (km : ClassId) (kp : ClassId) (nd1 : Value) (nd2 : Value) (y1 : UInt64) (s1 : Value) (s2 : Value) (y2 : UInt64) (m1 : Value) (m2 : Value) (p0 : Value) (p1 : Value) (p2 : Value) (u_size : Int32) (h0 : Heap) (n0 : Nat) (Z0 : n0 ≤ h0.size) (E_a1 : Exa Z h0 a1 "com/example/tandemcab/tandemcab/NodeQueue") (F_a1_nodes : Fld Z h0 a1 "com/example/tandemcab/tandemcab/NodeQueue" "nodes" "[I" (.ref tn)) (F_a1_seconds : Fld Z h0 a1 "com/example/tandemcab/tandemcab/NodeQueue" "seconds" "[D" (.ref ts)) (F_a1_metres : Fld Z h0 a1 "com/example/tandemcab/tandemcab/NodeQueue" "metres" "[D" (.ref tm)) (F_a1_position : Fld Z h0 a1 "com/example/tandemcab/tandemcab/NodeQueue" "position" "[I" (.ref tp)) (F_a1_size : Fld Z h0 a1 "com/example/tandemcab/tandemcab/NodeQueue" "size" "I" (.int u_size)) (V_tn : Arv Z h0 tn kn .int (3 : Int32) [(.int 1), nd1, nd2] (.int 0)) (V_ts : Arv Z h0 ts ks .double (3 : Int32) [(.double y1), s1, s2] (.double 0)) (V_tm : Arv Z h0 tm km .double (3 : Int32) [(.double y2), m1, m2] (.double 0)) (V_tp : Arv Z h0 tp kp .int (3 : Int32) [p0, p1, p2] (.int 0)) (g_a1 : n0 ≤ a1) (g_tn : n0 ≤ tn) (g_ts : n0 ≤ ts) (g_tm : n0 ≤ tm) (g_tp : n0 ≤ tp) (ne_a1_tn : a1 ≠ tn) (ne_a1_ts : a1 ≠ ts) (ne_a1_tm : a1 ≠ tm) (ne_a1_tp : a1 ≠ tp) (ne_tn_ts : tn ≠ ts) (ne_tn_tm : tn ≠ tm) (ne_tn_tp : tn ≠ tp) (ne_ts_tm : ts ≠ tm) (ne_ts_tp : ts ≠ tp) (ne_tm_tp : tm ≠ tp) (hbef : ¬ ((own_before x1 x2 y1 y2) = (0 : Int32))) :
    MetFree l (⟨"com/example/tandemcab/tandemcab/NodeQueue", "up", "(IDDI)V"⟩ : MethodName) (head1 (Jvm.Cond.code (⟨"com/example/tandemcab/tandemcab/NodeQueue", "up", "(IDDI)V"⟩ : MethodName) prog_49_method_7_code 8 none :: wsC) ({ frames := 2, cells := 0, slots := 0, locals := 32 } : Room)) (fun a U => a = #[(.ref a1), (.int 0), (.double x1), (.double x2), (.int 2)] ∧ Z.Warmed39 U.vm ∧ U.heap = h0) (fun _ _ _ _ _ => True) (fun _ U o U' => ∃ v L, o = .returned v ∧ Q6t44 Z a1 x1 x2 tn ts tm tp kn ks km kp nd1 nd2 y1 s1 s2 y2 m1 m2 p0 p1 p2 u_size h0 n0 v U'.heap L ∧ FrameEnd U o U' L ({ frames := 2, cells := 0, slots := 0, locals := 32 } : Room).cells ({ frames := 2, cells := 0, slots := 0, locals := 32 } : Room).slots) := by
  refine MetFree.of_bodySF (plainFor_of_name pn_0) hisR ?_
  intro p e s m args below meth c s₁ Bd hml0 hP hK
  obtain ⟨rfl, hZ, hh⟩ := hP
  have hx := Bd.exec
  have hby := Bd.bytes
  have hml : c.maxLocals = 8 := hml0
  have hown : s.vm.findClass "com/example/tandemcab/tandemcab/NodeQueue" = some m.cls := findClass_of_methodNamed Bd.named
  have hnm := (name_of_methodNamed Bd.named Bd.method).1
  have X0 : Stand p l e ({ frames := 2, cells := 0, slots := 0, locals := 32 } : Room) s m #[(.ref a1), (.int 0), (.double x1), (.double x2), (.int 2)] below meth c s₁ [] 0 0 := Stand.of_body Bd
  have e0 : s₁.heap = h0 := by rw [← hh, Bd.state]; rfl
  have NF := Fr.nil n0
  have KP : Keep h0 h0 [a1, tn, ts, tm, tp] := Keep.refl h0 _
  refine WP.go ?_
  refine WP.cast (ef_6t44 m a1 x1 x2) ?_
  refine WP.name ?_
  intro G hG
  refine WP.st (T' := s₁) (f' := (mkF m 9 #[.val (.ref a1), .val (.int 0), .val (.double x1), .second, .val (.double x2), .second, .val (.int 2), .unset] [(.int ((2 : Int32) - (1 : Int32)))])) (fun t k => ?_) ?_
  · refine XS.iload X0.here hx rfl (hb hby d6_0) rfl ?_
    refine XS.ifNo X0.here hx rfl (hb hby d6_2) rfl ((if0 _ _).trans (tlt (by decide : (0 : Int32) < (2 : Int32))).2.2.2) ?_
    refine XS.iload X0.here hx rfl (hb hby d6_5) rfl ?_
    refine XS.iconst X0.here hx rfl (hb hby d6_7) ?_
    refine XS.isub X0.here hx rfl (hb hby d6_8) rfl ?_
    exact k
  rw [show ((2 : Int32) - (1 : Int32)) = (1 : Int32) from by decide]
  show WP p.tables e below _ s₁ (mkF m 9 #[.val (.ref a1), .val (.int 0), .val (.double x1), .second, .val (.double x2), .second, .val (.int 2), .unset] [(.int 1)])
  refine WP.st (T' := s₁) (f' := (mkF m 11 #[.val (.ref a1), .val (.int 0), .val (.double x1), .second, .val (.double x2), .second, .val (.int 2), .unset] [(.int (((1 : Int32).toUInt32 >>> ((1 : Int32) &&& 31).toUInt32).toInt32))])) (fun t k => ?_) ?_
  · refine XS.iconst X0.here hx rfl (hb hby d6_9) ?_
    refine XS.iushr X0.here hx rfl (hb hby d6_10) rfl ?_
    exact k
  rw [show (((1 : Int32).toUInt32 >>> ((1 : Int32) &&& 31).toUInt32).toInt32) = (0 : Int32) from by decide]
  show WP p.tables e below _ s₁ (mkF m 11 #[.val (.ref a1), .val (.int 0), .val (.double x1), .second, .val (.double x2), .second, .val (.int 2), .unset] [(.int 0)])
  refine WP.st (T' := s₁) (f' := (mkF m 17 #[.val (.ref a1), .val (.int 0), .val (.double x1), .second, .val (.double x2), .second, .val (.int 2), .val (.int 0)] [(.ref a1), (.double x2), (.double x1)])) (fun t k => ?_) ?_
  · refine XS.istore X0.here hx rfl (hb hby d6_11) rfl (l' := #[.val (.ref a1), .val (.int 0), .val (.double x1), .second, .val (.double x2), .second, .val (.int 2), .val (.int 0)]) rfl ?_
    refine XS.dloadN X0.here hx rfl (hb hby d6_13) rfl ?_
    refine XS.dload X0.here hx rfl (hb hby d6_14) rfl ?_
    refine XS.aloadN X0.here hx rfl (hb hby d6_16) rfl rfl ?_
    exact k
  obtain ⟨T428, X428, e428, st428⟩ := getF X0 hx hZ hown (host := "") (Or.inl (w_13 hw)) Via.refl e0 F_a1_seconds (g := (mkF m 17 #[.val (.ref a1), .val (.int 0), .val (.double x1), .second, .val (.double x2), .second, .val (.int 2), .val (.int 0)] [(.ref a1), (.double x2), (.double x1)])) rfl rfl (hb hby d6_17)
  refine WP.st st428 ?_
  clear st428
  show WP p.tables e below _ T428 (mkF m 20 #[.val (.ref a1), .val (.int 0), .val (.double x1), .second, .val (.double x2), .second, .val (.int 2), .val (.int 0)] [(.ref ts), (.double x2), (.double x1)])
  refine WP.st (T' := T428) (f' := (mkF m 22 #[.val (.ref a1), .val (.int 0), .val (.double x1), .second, .val (.double x2), .second, .val (.int 2), .val (.int 0)] [(.int 0), (.ref ts), (.double x2), (.double x1)])) (fun t k => ?_) ?_
  · refine XS.iload X428.here hx rfl (hb hby d6_20) rfl ?_
    exact k
  obtain ⟨cl429, Ar429, hin429, hat429, -⟩ := V_ts.rd (j := (0 : Int32)) ⟨by decide, by decide⟩
  replace hat429 : cl429.slots[((0 : Int32)).toNatClampNeg]? = some (.double y1) := hat429
  refine WP.st (T' := T428) (f' := (mkF m 24 #[.val (.ref a1), .val (.int 0), .val (.double x1), .second, .val (.double x2), .second, .val (.int 2), .val (.int 0)] [(.ref a1), (.double y1), (.double x2), (.double x1)])) (fun t k => ?_) ?_
  · refine X428.daload hx (j := (0 : Int32)) (v := (.double y1)) (by rw [e428]; exact Ar429.1) (State.isArrayOf_alike hZ.alike Ar429.2.1) Ar429.2.2 hin429 hat429 (g := (mkF m 22 #[.val (.ref a1), .val (.int 0), .val (.double x1), .second, .val (.double x2), .second, .val (.int 2), .val (.int 0)] [(.int 0), (.ref ts), (.double x2), (.double x1)])) rfl rfl (hb hby d6_22) _ ?_
    refine XS.aloadN X428.here hx rfl (hb hby d6_23) rfl rfl ?_
    exact k
  obtain ⟨T430, X430, e430, st430⟩ := getF X428 hx hZ hown (host := "") (Or.inl (w_15 hw)) Via.refl e428 F_a1_metres (g := (mkF m 24 #[.val (.ref a1), .val (.int 0), .val (.double x1), .second, .val (.double x2), .second, .val (.int 2), .val (.int 0)] [(.ref a1), (.double y1), (.double x2), (.double x1)])) rfl rfl (hb hby d6_24)
  refine WP.st st430 ?_
  clear st430
  show WP p.tables e below _ T430 (mkF m 27 #[.val (.ref a1), .val (.int 0), .val (.double x1), .second, .val (.double x2), .second, .val (.int 2), .val (.int 0)] [(.ref tm), (.double y1), (.double x2), (.double x1)])
  refine WP.st (T' := T430) (f' := (mkF m 29 #[.val (.ref a1), .val (.int 0), .val (.double x1), .second, .val (.double x2), .second, .val (.int 2), .val (.int 0)] [(.int 0), (.ref tm), (.double y1), (.double x2), (.double x1)])) (fun t k => ?_) ?_
  · refine XS.iload X430.here hx rfl (hb hby d6_27) rfl ?_
    exact k
  obtain ⟨cl431, Ar431, hin431, hat431, -⟩ := V_tm.rd (j := (0 : Int32)) ⟨by decide, by decide⟩
  replace hat431 : cl431.slots[((0 : Int32)).toNatClampNeg]? = some (.double y2) := hat431
  refine WP.st (T' := T430) (f' := (mkF m 30 #[.val (.ref a1), .val (.int 0), .val (.double x1), .second, .val (.double x2), .second, .val (.int 2), .val (.int 0)] [(.double y2), (.double y1), (.double x2), (.double x1)])) (fun t k => ?_) ?_
  · refine X430.daload hx (j := (0 : Int32)) (v := (.double y2)) (by rw [e430]; exact Ar431.1) (State.isArrayOf_alike hZ.alike Ar431.2.1) Ar431.2.2 hin431 hat431 (g := (mkF m 29 #[.val (.ref a1), .val (.int 0), .val (.double x1), .second, .val (.double x2), .second, .val (.int 2), .val (.int 0)] [(.int 0), (.ref tm), (.double y1), (.double x2), (.double x1)])) rfl rfl (hb hby d6_29) _ ?_
    exact k
  obtain ⟨_, _, ⟨T432, L432, k432, n432⟩, -, X432, ⟨Lc432, hQ432, l432, y432, z432⟩, st432⟩ := Jvm.LawKit.callS X430 hx (y := (⟨"com/example/tandemcab/tandemcab/NodeQueue", "before", "(DDDD)Z"⟩ : MethodName)) hown (mvT hZ (w_46 hw)) (mvT hZ (w_47 hw)) (mvT hZ (w_2 hw)) (mvT hZ (w_48 hw)) (by decide) (backOf (W := 0) (rm8 l Z a0 hw [] x1 x2 y1 y2 h0 n0 Z0 ) hZ (w_48 hw) (w_2 hw) (by decide) (by decide)) (g := (mkF m 30 #[.val (.ref a1), .val (.int 0), .val (.double x1), .second, .val (.double x2), .second, .val (.int 2), .val (.int 0)] [(.double y2), (.double y1), (.double x2), (.double x1)])) rfl (by rw [hml]; rfl) (argsL := [(.double x1), (.double x2), (.double y1), (.double y2)]) (rest := []) (lenOf pd_4 rfl) rfl (by show 2 * 0 + _ ≤ _; exact Nat.le_of_eq rfl) (hb hby d6_30) (fun _ _ => ⟨rfl, e430, (by decide : 0 + 0 ≤ _), (by decide : 0 + 0 ≤ _)⟩)
  dsimp only [Pt.U, Pt.locs, Pt.cells, Pt.slots] at X432 l432 y432 z432 st432 hQ432
  subst l432 y432 z432
  obtain ⟨rfl, Nq432, Kq432⟩ := hQ432
  replace NF := Fr.app NF Nq432
  clear Nq432
  refine WP.st st432 ?_
  clear st432
  replace Kq432 := Kq432.trans (rfl : h0 = h0)
  show WP p.tables e below _ T432 (mkF m 33 #[.val (.ref a1), .val (.int 0), .val (.double x1), .second, .val (.double x2), .second, .val (.int 2), .val (.int 0)] [(.int (own_before x1 x2 y1 y2))])
  refine WP.st (T' := T432) (f' := (mkF m 44 #[.val (.ref a1), .val (.int 0), .val (.double x1), .second, .val (.double x2), .second, .val (.int 2), .val (.int 0)] [(.int 2), (.int 0), (.ref a1)])) (fun t k => ?_) ?_
  · refine XS.ifYes X432.here hx rfl (pc0 := 33) (pc' := 39) rfl (hb hby d6_33) rfl ((if0 _ _).trans (feq hbef).2) (by decide) (by decide) ?_
    refine XS.aloadN X432.here hx rfl (hb hby d6_39) rfl rfl ?_
    refine XS.iload X432.here hx rfl (hb hby d6_40) rfl ?_
    refine XS.iload X432.here hx rfl (hb hby d6_42) rfl ?_
    exact k
  obtain ⟨cq433, q433, q433'⟩ := E_a1.cell
  obtain ⟨_, _, ⟨T433, L433, k433, n433⟩, -, X433, ⟨Lc433, hQ433, l433, y433, z433⟩, st433⟩ := X432.privateBack hx (y := (⟨"com/example/tandemcab/tandemcab/NodeQueue", "move", "(II)V"⟩ : MethodName)) hown (mvT hZ (w_49 hw)) (mvT hZ (w_50 hw)) (ownSel (y := (⟨"com/example/tandemcab/tandemcab/NodeQueue", "move", "(II)V"⟩ : MethodName)) (mvT hZ (w_22 hw)) rfl (Cond.privateMethod_at (mvP hZ (w_51 hw) (args := #[]))) (mvT hZ (w_50 hw)) (by decide)) (Cond.privateMethod_at (mvP hZ (w_51 hw) (args := #[]))) (mvT hZ (w_52 hw)) (by decide) (backOf (W := 0) (rm9t10 l Z a0 hw [] a1 tn ts tm tp kn ks km kp nd1 nd2 y1 s1 s2 y2 m1 m2 p0 p1 p2 u_size h0 n0 Z0 E_a1 F_a1_nodes F_a1_seconds F_a1_metres F_a1_position F_a1_size V_tn V_ts V_tm V_tp g_a1 g_tn g_ts g_tm g_tp ne_a1_tn ne_a1_ts ne_a1_tm ne_a1_tp ne_tn_ts ne_tn_tm ne_tn_tp ne_ts_tm ne_ts_tp ne_tm_tp) hZ (w_52 hw) (w_2 hw) (by decide) (by decide)) (g := (mkF m 44 #[.val (.ref a1), .val (.int 0), .val (.double x1), .second, .val (.double x2), .second, .val (.int 2), .val (.int 0)] [(.int 2), (.int 0), (.ref a1)])) rfl (by rw [hml]; rfl) (Steps.refl _) (a := a1) (by rw [Kq432]; exact q433) q433' (argsL := [(.int 0), (.int 2)]) (rest := []) (lenOf pd_5 rfl) rfl (by show 2 * 0 + _ ≤ _; exact Nat.le_of_eq rfl) (hb hby d6_44) (fun _ _ => ⟨rfl, Kq432, (by decide : 0 + 0 ≤ _), (by decide : 0 + 0 ≤ _)⟩)
  dsimp only [Pt.U, Pt.locs, Pt.cells, Pt.slots] at X433 l433 y433 z433 st433 hQ433
  subst l433 y433 z433
  obtain ⟨rfl, Nq433, Kq433, nF433_a1_nodes, nF433_a1_seconds, nF433_a1_metres, nF433_a1_position, nF433_a1_size, nA433_tn, nA433_ts, nA433_tm, nA433_tp⟩ := hQ433
  replace NF := Fr.app NF Nq433
  clear Nq433
  refine WP.tr st433 ?_
  clear st433
  obtain ⟨h433, e433⟩ : ∃ h, T433.heap = h := ⟨_, rfl⟩
  rw [e433] at Kq433 nF433_a1_nodes nF433_a1_seconds nF433_a1_metres nF433_a1_position nF433_a1_size nA433_tn nA433_ts nA433_tm nA433_tp
  replace E_a1 := E_a1.keep Kq433
  clear F_a1_nodes
  clear F_a1_seconds
  clear F_a1_metres
  clear F_a1_position
  clear F_a1_size
  clear V_tn
  clear V_ts
  clear V_tm
  clear V_tp
  replace Z0 := Nat.le_trans Z0 Kq433.1
  replace KP := KP.trans Kq433 (allS (Or.inl (List.mem_of_getElem? (i := 0) rfl)) (allS (Or.inl (List.mem_of_getElem? (i := 1) rfl)) (allS (Or.inl (List.mem_of_getElem? (i := 2) rfl)) (allS (Or.inl (List.mem_of_getElem? (i := 3) rfl)) (allS (Or.inl (List.mem_of_getElem? (i := 4) rfl)) all0)))))
  clear Kq433
  have F_a1_nodes := nF433_a1_nodes
  clear nF433_a1_nodes
  have F_a1_seconds := nF433_a1_seconds
  clear nF433_a1_seconds
  have F_a1_metres := nF433_a1_metres
  clear nF433_a1_metres
  have F_a1_position := nF433_a1_position
  clear nF433_a1_position
  have F_a1_size := nF433_a1_size
  clear nF433_a1_size
  have V_tn := nA433_tn
  clear nA433_tn
  have V_ts := nA433_ts
  clear nA433_ts
  have V_tm := nA433_tm
  clear nA433_tm
  have V_tp := nA433_tp
  clear nA433_tp
  show WP p.tables e below _ T433 (mkF m 47 #[.val (.ref a1), .val (.int 0), .val (.double x1), .second, .val (.double x2), .second, .val (.int 2), .val (.int 0)] [])
  refine WP.st (T' := T433) (f' := (mkF m 61 #[.val (.ref a1), .val (.int 0), .val (.double x1), .second, .val (.double x2), .second, .val (.int 0), .val (.int 0)] [(.int 0), (.double x2), (.double x1), (.int 0), (.ref a1)])) (fun t k => ?_) ?_
  · refine XS.iload X433.here hx rfl (hb hby d6_47) rfl ?_
    refine XS.istore X433.here hx rfl (hb hby d6_49) rfl (l' := #[.val (.ref a1), .val (.int 0), .val (.double x1), .second, .val (.double x2), .second, .val (.int 0), .val (.int 0)]) rfl ?_
    refine XS.goto X433.here hx rfl (pc0 := 51) (pc' := 0) rfl (hb hby d6_51) (by decide) (by decide) ?_
    refine XS.iload X433.here hx rfl (hb hby d6_0) rfl ?_
    refine XS.ifYes X433.here hx rfl (pc0 := 2) (pc' := 54) rfl (hb hby d6_2) rfl ((if0 _ _).trans (flt (by decide : ¬ ((0 : Int32) < (0 : Int32)))).2.2.2) (by decide) (by decide) ?_
    refine XS.aloadN X433.here hx rfl (hb hby d6_54) rfl rfl ?_
    refine XS.iloadN X433.here hx rfl (hb hby d6_55) rfl ?_
    refine XS.dloadN X433.here hx rfl (hb hby d6_56) rfl ?_
    show Steps p.tables e below (T433.setTop (mkF m 57 #[.val (.ref a1), .val (.int 0), .val (.double x1), .second, .val (.double x2), .second, .val (.int 0), .val (.int 0)] [(.double x1), (.int 0), (.ref a1)])) t
    refine XS.dload X433.here hx rfl (hb hby d6_57) rfl ?_
    refine XS.iload X433.here hx rfl (hb hby d6_59) rfl ?_
    exact k
  obtain ⟨cq434, q434, q434'⟩ := E_a1.cell
  obtain ⟨_, _, ⟨T434, L434, k434, n434⟩, -, X434, ⟨Lc434, hQ434, l434, y434, z434⟩, st434⟩ := X433.privateBack hx (y := (⟨"com/example/tandemcab/tandemcab/NodeQueue", "place", "(IDDI)V"⟩ : MethodName)) hown (mvT hZ (w_41 hw)) (mvT hZ (w_42 hw)) (ownSel (y := (⟨"com/example/tandemcab/tandemcab/NodeQueue", "place", "(IDDI)V"⟩ : MethodName)) (mvT hZ (w_22 hw)) rfl (Cond.privateMethod_at (mvP hZ (w_43 hw) (args := #[]))) (mvT hZ (w_42 hw)) (by decide)) (Cond.privateMethod_at (mvP hZ (w_43 hw) (args := #[]))) (mvT hZ (w_44 hw)) (by decide) (backOf (W := 0) (rm7t2 l Z a0 hw [] a1 x1 x2 tn ts tm tp kn ks km kp (.int 1) nd1 (.int 1) (.double y1) s1 (.double y1) (.double y2) m1 (.double y2) p0 (.int 3) p2 u_size h433 n0 Z0 E_a1 F_a1_nodes F_a1_seconds F_a1_metres F_a1_position F_a1_size V_tn V_ts V_tm V_tp g_a1 g_tn g_ts g_tm g_tp ne_a1_tn ne_a1_ts ne_a1_tm ne_a1_tp ne_tn_ts ne_tn_tm ne_tn_tp ne_ts_tm ne_ts_tp ne_tm_tp) hZ (w_44 hw) (w_2 hw) (by decide) (by decide)) (g := (mkF m 61 #[.val (.ref a1), .val (.int 0), .val (.double x1), .second, .val (.double x2), .second, .val (.int 0), .val (.int 0)] [(.int 0), (.double x2), (.double x1), (.int 0), (.ref a1)])) rfl (by rw [hml]; rfl) (Steps.refl _) (a := a1) (by rw [e433]; exact q434) q434' (argsL := [(.int 0), (.double x1), (.double x2), (.int 0)]) (rest := []) (lenOf pd_2 rfl) rfl (by show 2 * 0 + _ ≤ _; exact Nat.le_of_eq rfl) (hb hby d6_61) (fun _ _ => ⟨rfl, e433, (by decide : 0 + 0 ≤ _), (by decide : 0 + 0 ≤ _)⟩)
  dsimp only [Pt.U, Pt.locs, Pt.cells, Pt.slots] at X434 l434 y434 z434 st434 hQ434
  subst l434 y434 z434
  obtain ⟨rfl, Nq434, Kq434, nF434_a1_nodes, nF434_a1_seconds, nF434_a1_metres, nF434_a1_position, nF434_a1_size, nA434_tn, nA434_ts, nA434_tm, nA434_tp⟩ := hQ434
  replace NF := Fr.app NF Nq434
  clear Nq434
  refine WP.tr st434 ?_
  clear st434
  obtain ⟨h434, e434⟩ : ∃ h, T434.heap = h := ⟨_, rfl⟩
  rw [e434] at Kq434 nF434_a1_nodes nF434_a1_seconds nF434_a1_metres nF434_a1_position nF434_a1_size nA434_tn nA434_ts nA434_tm nA434_tp
  replace E_a1 := E_a1.keep Kq434
  clear F_a1_nodes
  clear F_a1_seconds
  clear F_a1_metres
  clear F_a1_position
  clear F_a1_size
  clear V_tn
  clear V_ts
  clear V_tm
  clear V_tp
  replace Z0 := Nat.le_trans Z0 Kq434.1
  replace KP := KP.trans Kq434 (allS (Or.inl (List.mem_of_getElem? (i := 0) rfl)) (allS (Or.inl (List.mem_of_getElem? (i := 1) rfl)) (allS (Or.inl (List.mem_of_getElem? (i := 2) rfl)) (allS (Or.inl (List.mem_of_getElem? (i := 3) rfl)) (allS (Or.inl (List.mem_of_getElem? (i := 4) rfl)) all0)))))
  clear Kq434
  have F_a1_nodes := nF434_a1_nodes
  clear nF434_a1_nodes
  have F_a1_seconds := nF434_a1_seconds
  clear nF434_a1_seconds
  have F_a1_metres := nF434_a1_metres
  clear nF434_a1_metres
  have F_a1_position := nF434_a1_position
  clear nF434_a1_position
  have F_a1_size := nF434_a1_size
  clear nF434_a1_size
  have V_tn := nA434_tn
  clear nA434_tn
  have V_ts := nA434_ts
  clear nA434_ts
  have V_tm := nA434_tm
  clear nA434_tm
  have V_tp := nA434_tp
  clear nA434_tp
  show WP p.tables e below _ T434 (mkF m 64 #[.val (.ref a1), .val (.int 0), .val (.double x1), .second, .val (.double x2), .second, .val (.int 0), .val (.int 0)] [])
  subst hG
  obtain ⟨fs, hr, hrun, hended, hW, hsame⟩ := X434.leave (v := none) (fun _ => rfl)
  refine WP.fin ⟨_, _, ?_, hrun, hended, _, _, rfl, ?_, ⟨_, rfl⟩, hW, hsame.mono (by decide) (by decide)⟩
  · exact X434.returnOut hx Bd.returns (hb hby d6_64) hr
  · show Q6t44 Z a1 x1 x2 tn ts tm tp kn ks km kp nd1 nd2 y1 s1 s2 y2 m1 m2 p0 p1 p2 u_size h0 n0 _ T434.heap _
    rw [e434]
    exact ⟨rfl, NF, KP, F_a1_nodes, F_a1_seconds, F_a1_metres, F_a1_position, F_a1_size, V_tn, V_ts, V_tm, V_tp⟩
theorem ef_5t43 (m : MethodId) (z0 : Addr) (z2 : UInt64) (z3 : UInt64) : entryFrame m #[(.ref z0), (.int 0), (.double z2), (.double z3)] 7 = mkF m 0 #[.val (.ref z0), .val (.int 0), .val (.double z2), .second, .val (.double z3), .second, .unset] [] := by
  all_goals first | (simp [entryFrame, mkF, argsToLocals, Value.category]; done) | rfl
def Q5t43 (Z : State) (a1 : Addr) (x1 : UInt64) (x2 : UInt64) (tn : Addr) (ts : Addr) (tm : Addr) (tp : Addr) (kn : ClassId) (ks : ClassId) (km : ClassId) (kp : ClassId) (nd1 : Value) (nd2 : Value) (y1 : UInt64) (s1 : Value) (s2 : Value) (y2 : UInt64) (m1 : Value) (m2 : Value) (p1 : Value) (p2 : Value) (h0 : Heap) (n0 : Nat) (v : Option Value) (h : Heap) (L : List Loc) : Prop := v = none ∧ Fr n0 L ∧ Keep h0 h [a1, tn, ts, tm, tp] ∧ Fld Z h a1 "com/example/tandemcab/tandemcab/NodeQueue" "nodes" "[I" (.ref tn) ∧ Fld Z h a1 "com/example/tandemcab/tandemcab/NodeQueue" "seconds" "[D" (.ref ts) ∧ Fld Z h a1 "com/example/tandemcab/tandemcab/NodeQueue" "metres" "[D" (.ref tm) ∧ Fld Z h a1 "com/example/tandemcab/tandemcab/NodeQueue" "position" "[I" (.ref tp) ∧ Fld Z h a1 "com/example/tandemcab/tandemcab/NodeQueue" "size" "I" (.int 3) ∧ (Arv Z h tn kn .int (3 : Int32) [(.int 0), nd1, (.int 1)] (.int 0)) ∧ (Arv Z h ts ks .double (3 : Int32) [(.double x1), s1, (.double y1)] (.double 0)) ∧ (Arv Z h tm km .double (3 : Int32) [(.double x2), m1, (.double y2)] (.double 0)) ∧ (Arv Z h tp kp .int (3 : Int32) [(.int 1), (.int 3), p2] (.int 0))
set_option maxRecDepth 65536 in
set_option maxHeartbeats 40000000 in
theorem rm5t43 (l : Launch) (Z : State) (a0 : Array Value) (hw : ∀ d ∈ tables_1, d.before a0 Z = true) (wsC : List Jvm.Cond) (a1 : Addr) (x1 : UInt64) (x2 : UInt64) (tn : Addr) (ts : Addr) (tm : Addr) (tp : Addr) (kn : ClassId) (ks : ClassId) (km : ClassId) (kp : ClassId) (nd1 : Value) (nd2 : Value) (y1 : UInt64) (s1 : Value) (s2 : Value) (y2 : UInt64) (m1 : Value) (m2 : Value) (p1 : Value) (p2 : Value) (h0 : Heap) (n0 : Nat) (Z0 : n0 ≤ h0.size) (E_a1 : Exa Z h0 a1 "com/example/tandemcab/tandemcab/NodeQueue") (F_a1_nodes : Fld Z h0 a1 "com/example/tandemcab/tandemcab/NodeQueue" "nodes" "[I" (.ref tn)) (F_a1_seconds : Fld Z h0 a1 "com/example/tandemcab/tandemcab/NodeQueue" "seconds" "[D" (.ref ts)) (F_a1_metres : Fld Z h0 a1 "com/example/tandemcab/tandemcab/NodeQueue" "metres" "[D" (.ref tm)) (F_a1_position : Fld Z h0 a1 "com/example/tandemcab/tandemcab/NodeQueue" "position" "[I" (.ref tp)) (F_a1_size : Fld Z h0 a1 "com/example/tandemcab/tandemcab/NodeQueue" "size" "I" (.int 2)) (V_tn : Arv Z h0 tn kn .int (3 : Int32) [(.int 1), nd1, nd2] (.int 0)) (V_ts : Arv Z h0 ts ks .double (3 : Int32) [(.double y1), s1, s2] (.double 0)) (V_tm : Arv Z h0 tm km .double (3 : Int32) [(.double y2), m1, m2] (.double 0)) (V_tp : Arv Z h0 tp kp .int (3 : Int32) [(.int 0), p1, p2] (.int 0)) (g_a1 : n0 ≤ a1) (g_tn : n0 ≤ tn) (g_ts : n0 ≤ ts) (g_tm : n0 ≤ tm) (g_tp : n0 ≤ tp) (ne_a1_tn : a1 ≠ tn) (ne_a1_ts : a1 ≠ ts) (ne_a1_tm : a1 ≠ tm) (ne_a1_tp : a1 ≠ tp) (ne_tn_ts : tn ≠ ts) (ne_tn_tm : tn ≠ tm) (ne_tn_tp : tn ≠ tp) (ne_ts_tm : ts ≠ tm) (ne_ts_tp : ts ≠ tp) (ne_tm_tp : tm ≠ tp) (hbef : ¬ ((own_before x1 x2 y1 y2) = (0 : Int32))) :
    MetFree l (⟨"com/example/tandemcab/tandemcab/NodeQueue", "offer", "(IDD)V"⟩ : MethodName) (head1 (Jvm.Cond.code (⟨"com/example/tandemcab/tandemcab/NodeQueue", "offer", "(IDD)V"⟩ : MethodName) prog_49_method_5_code 7 none :: wsC) ({ frames := 3, cells := 0, slots := 0, locals := 51 } : Room)) (fun a U => a = #[(.ref a1), (.int 0), (.double x1), (.double x2)] ∧ Z.Warmed39 U.vm ∧ U.heap = h0) (fun _ _ _ _ _ => True) (fun _ U o U' => ∃ v L, o = .returned v ∧ Q5t43 Z a1 x1 x2 tn ts tm tp kn ks km kp nd1 nd2 y1 s1 s2 y2 m1 m2 p1 p2 h0 n0 v U'.heap L ∧ FrameEnd U o U' L ({ frames := 3, cells := 0, slots := 0, locals := 51 } : Room).cells ({ frames := 3, cells := 0, slots := 0, locals := 51 } : Room).slots) := by
  refine MetFree.of_bodySF (plainFor_of_name pn_0) hisR ?_
  intro p e s m args below meth c s₁ Bd hml0 hP hK
  obtain ⟨rfl, hZ, hh⟩ := hP
  have hx := Bd.exec
  have hby := Bd.bytes
  have hml : c.maxLocals = 7 := hml0
  have hown : s.vm.findClass "com/example/tandemcab/tandemcab/NodeQueue" = some m.cls := findClass_of_methodNamed Bd.named
  have hnm := (name_of_methodNamed Bd.named Bd.method).1
  have X0 : Stand p l e ({ frames := 3, cells := 0, slots := 0, locals := 51 } : Room) s m #[(.ref a1), (.int 0), (.double x1), (.double x2)] below meth c s₁ [] 0 0 := Stand.of_body Bd
  have e0 : s₁.heap = h0 := by rw [← hh, Bd.state]; rfl
  have NF := Fr.nil n0
  have KP : Keep h0 h0 [a1, tn, ts, tm, tp] := Keep.refl h0 _
  refine WP.go ?_
  refine WP.cast (ef_5t43 m a1 x1 x2) ?_
  refine WP.name ?_
  intro G hG
  refine WP.st (T' := s₁) (f' := (mkF m 1 #[.val (.ref a1), .val (.int 0), .val (.double x1), .second, .val (.double x2), .second, .unset] [(.ref a1)])) (fun t k => ?_) ?_
  · refine XS.aloadN X0.here hx rfl (hb hby d5_0) rfl rfl ?_
    exact k
  obtain ⟨T435, X435, e435, st435⟩ := getF X0 hx hZ hown (host := "") (Or.inl (w_17 hw)) Via.refl e0 F_a1_position (g := (mkF m 1 #[.val (.ref a1), .val (.int 0), .val (.double x1), .second, .val (.double x2), .second, .unset] [(.ref a1)])) rfl rfl (hb hby d5_1)
  refine WP.st st435 ?_
  clear st435
  show WP p.tables e below _ T435 (mkF m 4 #[.val (.ref a1), .val (.int 0), .val (.double x1), .second, .val (.double x2), .second, .unset] [(.ref tp)])
  refine WP.st (T' := T435) (f' := (mkF m 5 #[.val (.ref a1), .val (.int 0), .val (.double x1), .second, .val (.double x2), .second, .unset] [(.int 0), (.ref tp)])) (fun t k => ?_) ?_
  · refine XS.iloadN X435.here hx rfl (hb hby d5_4) rfl ?_
    exact k
  obtain ⟨cl436, Ar436, hin436, hat436, -⟩ := V_tp.rd (j := (0 : Int32)) ⟨by decide, by decide⟩
  replace hat436 : cl436.slots[((0 : Int32)).toNatClampNeg]? = some (.int 0) := hat436
  refine WP.st (T' := T435) (f' := (mkF m 8 #[.val (.ref a1), .val (.int 0), .val (.double x1), .second, .val (.double x2), .second, .unset] [(.int ((0 : Int32) - (1 : Int32)))])) (fun t k => ?_) ?_
  · refine X435.iaload hx (j := (0 : Int32)) (v := (.int 0)) (by rw [e435]; exact Ar436.1) (State.isArrayOf_alike hZ.alike Ar436.2.1) Ar436.2.2 hin436 hat436 (g := (mkF m 5 #[.val (.ref a1), .val (.int 0), .val (.double x1), .second, .val (.double x2), .second, .unset] [(.int 0), (.ref tp)])) rfl rfl (hb hby d5_5) _ ?_
    refine XS.iconst X435.here hx rfl (hb hby d5_6) ?_
    refine XS.isub X435.here hx rfl (hb hby d5_7) rfl ?_
    exact k
  rw [show ((0 : Int32) - (1 : Int32)) = (-1 : Int32) from by decide]
  show WP p.tables e below _ T435 (mkF m 8 #[.val (.ref a1), .val (.int 0), .val (.double x1), .second, .val (.double x2), .second, .unset] [(.int (-1))])
  refine WP.st (T' := T435) (f' := (mkF m 22 #[.val (.ref a1), .val (.int 0), .val (.double x1), .second, .val (.double x2), .second, .val (.int (-1))] [(.ref a1), (.ref a1), (.double x2), (.double x1), (.int 0), (.ref a1)])) (fun t k => ?_) ?_
  · refine XS.istore X435.here hx rfl (hb hby d5_8) rfl (l' := #[.val (.ref a1), .val (.int 0), .val (.double x1), .second, .val (.double x2), .second, .val (.int (-1))]) rfl ?_
    refine XS.iload X435.here hx rfl (hb hby d5_10) rfl ?_
    refine XS.ifNo X435.here hx rfl (hb hby d5_12) rfl ((if0 _ _).trans (tlt (by decide : (-1 : Int32) < (0 : Int32))).2.1) ?_
    refine XS.aloadN X435.here hx rfl (hb hby d5_15) rfl rfl ?_
    refine XS.iloadN X435.here hx rfl (hb hby d5_16) rfl ?_
    refine XS.dloadN X435.here hx rfl (hb hby d5_17) rfl ?_
    refine XS.dload X435.here hx rfl (hb hby d5_18) rfl ?_
    refine XS.aloadN X435.here hx rfl (hb hby d5_20) rfl rfl ?_
    show Steps p.tables e below (T435.setTop (mkF m 21 #[.val (.ref a1), .val (.int 0), .val (.double x1), .second, .val (.double x2), .second, .val (.int (-1))] [(.ref a1), (.double x2), (.double x1), (.int 0), (.ref a1)])) t
    refine XS.dup X435.here hx rfl (hb hby d5_21) rfl rfl ?_
    exact k
  obtain ⟨T437, X437, e437, st437⟩ := getF X435 hx hZ hown (host := "") (Or.inl (w_24 hw)) Via.refl e435 F_a1_size (g := (mkF m 22 #[.val (.ref a1), .val (.int 0), .val (.double x1), .second, .val (.double x2), .second, .val (.int (-1))] [(.ref a1), (.ref a1), (.double x2), (.double x1), (.int 0), (.ref a1)])) rfl rfl (hb hby d5_22)
  refine WP.st st437 ?_
  clear st437
  show WP p.tables e below _ T437 (mkF m 25 #[.val (.ref a1), .val (.int 0), .val (.double x1), .second, .val (.double x2), .second, .val (.int (-1))] [(.int 2), (.ref a1), (.double x2), (.double x1), (.int 0), (.ref a1)])
  refine WP.st (T' := T437) (f' := (mkF m 28 #[.val (.ref a1), .val (.int 0), .val (.double x1), .second, .val (.double x2), .second, .val (.int (-1))] [(.int ((2 : Int32) + (1 : Int32))), (.ref a1), (.int 2), (.double x2), (.double x1), (.int 0), (.ref a1)])) (fun t k => ?_) ?_
  · refine XS.dupX1 X437.here hx rfl (hb hby d5_25) rfl rfl rfl ?_
    refine XS.iconst X437.here hx rfl (hb hby d5_26) ?_
    refine XS.iadd X437.here hx rfl (hb hby d5_27) rfl ?_
    exact k
  rw [show ((2 : Int32) + (1 : Int32)) = (3 : Int32) from by decide]
  show WP p.tables e below _ T437 (mkF m 28 #[.val (.ref a1), .val (.int 0), .val (.double x1), .second, .val (.double x2), .second, .val (.int (-1))] [(.int 3), (.ref a1), (.int 2), (.double x2), (.double x1), (.int 0), (.ref a1)])
  obtain ⟨T438, h438, X438, e438, W438, st438⟩ := putF X437 hx hZ hown (host := "") (Or.inl (w_24 hw)) Via.refl e437 F_a1_size E_a1 (Or.inl (w_25 hw)) (w_1 hw) (ty := .int) (by decide) rfl rfl (g := (mkF m 28 #[.val (.ref a1), .val (.int 0), .val (.double x1), .second, .val (.double x2), .second, .val (.int (-1))] [(.int 3), (.ref a1), (.int 2), (.double x2), (.double x1), (.int 0), (.ref a1)])) rfl rfl (hb hby d5_28)
  refine WP.st st438 ?_
  clear st438
  replace E_a1 := E_a1.wr W438
  replace F_a1_nodes := F_a1_nodes.other W438 (Or.inr (sn_16 hw))
  replace F_a1_seconds := F_a1_seconds.other W438 (Or.inr (sn_17 hw))
  replace F_a1_metres := F_a1_metres.other W438 (Or.inr (sn_18 hw))
  replace F_a1_position := F_a1_position.other W438 (Or.inr (sn_19 hw))
  replace F_a1_size := F_a1_size.same W438
  replace V_tn := V_tn.other W438 (Ne.symm ne_a1_tn)
  replace V_ts := V_ts.other W438 (Ne.symm ne_a1_ts)
  replace V_tm := V_tm.other W438 (Ne.symm ne_a1_tm)
  replace V_tp := V_tp.other W438 (Ne.symm ne_a1_tp)
  replace Z0 := Nat.le_trans Z0 (Keep.of_wr W438).1
  replace KP := KP.wr W438 (Or.inl (List.mem_of_getElem? (i := 0) rfl))
  replace NF := Fr.snoc X438 NF g_a1
  clear W438
  show WP p.tables e below _ T438 (mkF m 31 #[.val (.ref a1), .val (.int 0), .val (.double x1), .second, .val (.double x2), .second, .val (.int (-1))] [(.int 2), (.double x2), (.double x1), (.int 0), (.ref a1)])
  obtain ⟨cq439, q439, q439'⟩ := E_a1.cell
  obtain ⟨_, _, ⟨T439, L439, k439, n439⟩, -, X439, ⟨Lc439, hQ439, l439, y439, z439⟩, st439⟩ := X438.privateBack hx (y := (⟨"com/example/tandemcab/tandemcab/NodeQueue", "up", "(IDDI)V"⟩ : MethodName)) hown (mvT hZ (w_37 hw)) (mvT hZ (w_38 hw)) (ownSel (y := (⟨"com/example/tandemcab/tandemcab/NodeQueue", "up", "(IDDI)V"⟩ : MethodName)) (mvT hZ (w_22 hw)) rfl (Cond.privateMethod_at (mvP hZ (w_39 hw) (args := #[]))) (mvT hZ (w_38 hw)) (by decide)) (Cond.privateMethod_at (mvP hZ (w_39 hw) (args := #[]))) (mvT hZ (w_40 hw)) (by decide) (backOf (W := 0) (rm6t44 l Z a0 hw [] a1 x1 x2 tn ts tm tp kn ks km kp nd1 nd2 y1 s1 s2 y2 m1 m2 (.int 0) p1 p2 (3 : Int32) h438 n0 Z0 E_a1 F_a1_nodes F_a1_seconds F_a1_metres F_a1_position F_a1_size V_tn V_ts V_tm V_tp g_a1 g_tn g_ts g_tm g_tp ne_a1_tn ne_a1_ts ne_a1_tm ne_a1_tp ne_tn_ts ne_tn_tm ne_tn_tp ne_ts_tm ne_ts_tp ne_tm_tp hbef) hZ (w_40 hw) (w_2 hw) (by decide) (by decide)) (g := (mkF m 31 #[.val (.ref a1), .val (.int 0), .val (.double x1), .second, .val (.double x2), .second, .val (.int (-1))] [(.int 2), (.double x2), (.double x1), (.int 0), (.ref a1)])) rfl (by rw [hml]; rfl) (Steps.refl _) (a := a1) (by rw [e438]; exact q439) q439' (argsL := [(.int 0), (.double x1), (.double x2), (.int 2)]) (rest := []) (lenOf pd_2 rfl) rfl (by show 2 * 0 + _ ≤ _; exact Nat.le_of_eq rfl) (hb hby d5_31) (fun _ _ => ⟨rfl, e438, (by decide : 0 + 0 ≤ _), (by decide : 0 + 0 ≤ _)⟩)
  dsimp only [Pt.U, Pt.locs, Pt.cells, Pt.slots] at X439 l439 y439 z439 st439 hQ439
  subst l439 y439 z439
  obtain ⟨rfl, Nq439, Kq439, nF439_a1_nodes, nF439_a1_seconds, nF439_a1_metres, nF439_a1_position, nF439_a1_size, nA439_tn, nA439_ts, nA439_tm, nA439_tp⟩ := hQ439
  replace NF := Fr.app NF Nq439
  clear Nq439
  refine WP.tr st439 ?_
  clear st439
  obtain ⟨h439, e439⟩ : ∃ h, T439.heap = h := ⟨_, rfl⟩
  rw [e439] at Kq439 nF439_a1_nodes nF439_a1_seconds nF439_a1_metres nF439_a1_position nF439_a1_size nA439_tn nA439_ts nA439_tm nA439_tp
  replace E_a1 := E_a1.keep Kq439
  clear F_a1_nodes
  clear F_a1_seconds
  clear F_a1_metres
  clear F_a1_position
  clear F_a1_size
  clear V_tn
  clear V_ts
  clear V_tm
  clear V_tp
  replace Z0 := Nat.le_trans Z0 Kq439.1
  replace KP := KP.trans Kq439 (allS (Or.inl (List.mem_of_getElem? (i := 0) rfl)) (allS (Or.inl (List.mem_of_getElem? (i := 1) rfl)) (allS (Or.inl (List.mem_of_getElem? (i := 2) rfl)) (allS (Or.inl (List.mem_of_getElem? (i := 3) rfl)) (allS (Or.inl (List.mem_of_getElem? (i := 4) rfl)) all0)))))
  clear Kq439
  have F_a1_nodes := nF439_a1_nodes
  clear nF439_a1_nodes
  have F_a1_seconds := nF439_a1_seconds
  clear nF439_a1_seconds
  have F_a1_metres := nF439_a1_metres
  clear nF439_a1_metres
  have F_a1_position := nF439_a1_position
  clear nF439_a1_position
  have F_a1_size := nF439_a1_size
  clear nF439_a1_size
  have V_tn := nA439_tn
  clear nA439_tn
  have V_ts := nA439_ts
  clear nA439_ts
  have V_tm := nA439_tm
  clear nA439_tm
  have V_tp := nA439_tp
  clear nA439_tp
  show WP p.tables e below _ T439 (mkF m 34 #[.val (.ref a1), .val (.int 0), .val (.double x1), .second, .val (.double x2), .second, .val (.int (-1))] [])
  refine WP.st (T' := T439) (f' := (mkF m 83 #[.val (.ref a1), .val (.int 0), .val (.double x1), .second, .val (.double x2), .second, .val (.int (-1))] [])) (fun t k => ?_) ?_
  · refine XS.goto X439.here hx rfl (pc0 := 34) (pc' := 83) rfl (hb hby d5_34) (by decide) (by decide) ?_
    exact k
  subst hG
  obtain ⟨fs, hr, hrun, hended, hW, hsame⟩ := X439.leave (v := none) (fun _ => rfl)
  refine WP.fin ⟨_, _, ?_, hrun, hended, _, _, rfl, ?_, ⟨_, rfl⟩, hW, hsame.mono (by decide) (by decide)⟩
  · exact X439.returnOut hx Bd.returns (hb hby d5_83) hr
  · show Q5t43 Z a1 x1 x2 tn ts tm tp kn ks km kp nd1 nd2 y1 s1 s2 y2 m1 m2 p1 p2 h0 n0 _ T439.heap _
    rw [e439]
    exact ⟨rfl, NF, KP, F_a1_nodes, F_a1_seconds, F_a1_metres, F_a1_position, F_a1_size, V_tn, V_ts, V_tm, V_tp⟩
theorem ef_3t45 (m : MethodId) (z0 : Addr) : entryFrame m #[(.ref z0)] 2 = mkF m 0 #[.val (.ref z0), .unset] [] := by
  all_goals first | (simp [entryFrame, mkF, argsToLocals, Value.category]; done) | rfl
def Q3t45 (Z : State) (a1 : Addr) (tn : Addr) (ts : Addr) (tm : Addr) (tp : Addr) (kn : ClassId) (ks : ClassId) (km : ClassId) (kp : ClassId) (s0 : Value) (s1 : Value) (s2 : Value) (m0 : Value) (m1 : Value) (m2 : Value) (p0 : Value) (p1 : Value) (p2 : Value) (h0 : Heap) (n0 : Nat) (v : Option Value) (h : Heap) (L : List Loc) : Prop := v = none ∧ Fr n0 L ∧ Keep h0 h [a1, tn, ts, tm, tp] ∧ Fld Z h a1 "com/example/tandemcab/tandemcab/NodeQueue" "nodes" "[I" (.ref tn) ∧ Fld Z h a1 "com/example/tandemcab/tandemcab/NodeQueue" "seconds" "[D" (.ref ts) ∧ Fld Z h a1 "com/example/tandemcab/tandemcab/NodeQueue" "metres" "[D" (.ref tm) ∧ Fld Z h a1 "com/example/tandemcab/tandemcab/NodeQueue" "position" "[I" (.ref tp) ∧ Fld Z h a1 "com/example/tandemcab/tandemcab/NodeQueue" "size" "I" (.int 0) ∧ (Arv Z h tn kn .int (3 : Int32) [(.int 0), (.int 2), (.int 1)] (.int 0)) ∧ (Arv Z h ts ks .double (3 : Int32) [s0, s1, s2] (.double 0)) ∧ (Arv Z h tm km .double (3 : Int32) [m0, m1, m2] (.double 0)) ∧ (Arv Z h tp kp .int (3 : Int32) [(.int 0), (.int 0), (.int 0)] (.int 0))
set_option maxRecDepth 65536 in
set_option maxHeartbeats 40000000 in
theorem rm3t45 (l : Launch) (Z : State) (a0 : Array Value) (hw : ∀ d ∈ tables_1, d.before a0 Z = true) (wsC : List Jvm.Cond) (a1 : Addr) (tn : Addr) (ts : Addr) (tm : Addr) (tp : Addr) (kn : ClassId) (ks : ClassId) (km : ClassId) (kp : ClassId) (s0 : Value) (s1 : Value) (s2 : Value) (m0 : Value) (m1 : Value) (m2 : Value) (p0 : Value) (p1 : Value) (p2 : Value) (h0 : Heap) (n0 : Nat) (Z0 : n0 ≤ h0.size) (E_a1 : Exa Z h0 a1 "com/example/tandemcab/tandemcab/NodeQueue") (F_a1_nodes : Fld Z h0 a1 "com/example/tandemcab/tandemcab/NodeQueue" "nodes" "[I" (.ref tn)) (F_a1_seconds : Fld Z h0 a1 "com/example/tandemcab/tandemcab/NodeQueue" "seconds" "[D" (.ref ts)) (F_a1_metres : Fld Z h0 a1 "com/example/tandemcab/tandemcab/NodeQueue" "metres" "[D" (.ref tm)) (F_a1_position : Fld Z h0 a1 "com/example/tandemcab/tandemcab/NodeQueue" "position" "[I" (.ref tp)) (F_a1_size : Fld Z h0 a1 "com/example/tandemcab/tandemcab/NodeQueue" "size" "I" (.int 3)) (V_tn : Arv Z h0 tn kn .int (3 : Int32) [(.int 0), (.int 2), (.int 1)] (.int 0)) (V_ts : Arv Z h0 ts ks .double (3 : Int32) [s0, s1, s2] (.double 0)) (V_tm : Arv Z h0 tm km .double (3 : Int32) [m0, m1, m2] (.double 0)) (V_tp : Arv Z h0 tp kp .int (3 : Int32) [p0, p1, p2] (.int 0)) (g_a1 : n0 ≤ a1) (g_tn : n0 ≤ tn) (g_ts : n0 ≤ ts) (g_tm : n0 ≤ tm) (g_tp : n0 ≤ tp) (ne_a1_tn : a1 ≠ tn) (ne_a1_ts : a1 ≠ ts) (ne_a1_tm : a1 ≠ tm) (ne_a1_tp : a1 ≠ tp) (ne_tn_ts : tn ≠ ts) (ne_tn_tm : tn ≠ tm) (ne_tn_tp : tn ≠ tp) (ne_ts_tm : ts ≠ tm) (ne_ts_tp : ts ≠ tp) (ne_tm_tp : tm ≠ tp) :
    MetFree l (⟨"com/example/tandemcab/tandemcab/NodeQueue", "clear", "()V"⟩ : MethodName) (head1 (Jvm.Cond.code (⟨"com/example/tandemcab/tandemcab/NodeQueue", "clear", "()V"⟩ : MethodName) prog_49_method_3_code 2 none :: wsC) ({ frames := 0, cells := 0, slots := 0, locals := 0 } : Room)) (fun a U => a = #[(.ref a1)] ∧ Z.Warmed39 U.vm ∧ U.heap = h0) (fun _ _ _ _ _ => True) (fun _ U o U' => ∃ v L, o = .returned v ∧ Q3t45 Z a1 tn ts tm tp kn ks km kp s0 s1 s2 m0 m1 m2 p0 p1 p2 h0 n0 v U'.heap L ∧ FrameEnd U o U' L ({ frames := 0, cells := 0, slots := 0, locals := 0 } : Room).cells ({ frames := 0, cells := 0, slots := 0, locals := 0 } : Room).slots) := by
  refine MetFree.of_bodySF (plainFor_of_name pn_0) hisR ?_
  intro p e s m args below meth c s₁ Bd hml0 hP hK
  obtain ⟨rfl, hZ, hh⟩ := hP
  have hx := Bd.exec
  have hby := Bd.bytes
  have hml : c.maxLocals = 2 := hml0
  have hown : s.vm.findClass "com/example/tandemcab/tandemcab/NodeQueue" = some m.cls := findClass_of_methodNamed Bd.named
  have hnm := (name_of_methodNamed Bd.named Bd.method).1
  have X0 : Stand p l e ({ frames := 0, cells := 0, slots := 0, locals := 0 } : Room) s m #[(.ref a1)] below meth c s₁ [] 0 0 := Stand.of_body Bd
  have e0 : s₁.heap = h0 := by rw [← hh, Bd.state]; rfl
  have NF := Fr.nil n0
  have KP : Keep h0 h0 [a1, tn, ts, tm, tp] := Keep.refl h0 _
  refine WP.go ?_
  refine WP.cast (ef_3t45 m a1) ?_
  refine WP.name ?_
  intro G hG
  refine WP.st (T' := s₁) (f' := (mkF m 4 #[.val (.ref a1), .val (.int 0)] [(.ref a1), (.int 0)])) (fun t k => ?_) ?_
  · refine XS.iconst X0.here hx rfl (hb hby d3_0) ?_
    refine XS.istoreN X0.here hx rfl (hb hby d3_1) rfl (l' := #[.val (.ref a1), .val (.int 0)]) rfl ?_
    refine XS.iloadN X0.here hx rfl (hb hby d3_2) rfl ?_
    refine XS.aloadN X0.here hx rfl (hb hby d3_3) rfl rfl ?_
    exact k
  obtain ⟨T441, X441, e441, st441⟩ := getF X0 hx hZ hown (host := "") (Or.inl (w_24 hw)) Via.refl e0 F_a1_size (g := (mkF m 4 #[.val (.ref a1), .val (.int 0)] [(.ref a1), (.int 0)])) rfl rfl (hb hby d3_4)
  refine WP.st st441 ?_
  clear st441
  show WP p.tables e below _ T441 (mkF m 7 #[.val (.ref a1), .val (.int 0)] [(.int 3), (.int 0)])
  refine WP.st (T' := T441) (f' := (mkF m 11 #[.val (.ref a1), .val (.int 0)] [(.ref a1)])) (fun t k => ?_) ?_
  · refine XS.icmpNo X441.here hx rfl (hb hby d3_7) rfl (tlt (by decide : (0 : Int32) < (3 : Int32))).2.1 ?_
    refine XS.aloadN X441.here hx rfl (hb hby d3_10) rfl rfl ?_
    exact k
  obtain ⟨T442, X442, e442, st442⟩ := getF X441 hx hZ hown (host := "") (Or.inl (w_17 hw)) Via.refl e441 F_a1_position (g := (mkF m 11 #[.val (.ref a1), .val (.int 0)] [(.ref a1)])) rfl rfl (hb hby d3_11)
  refine WP.st st442 ?_
  clear st442
  show WP p.tables e below _ T442 (mkF m 14 #[.val (.ref a1), .val (.int 0)] [(.ref tp)])
  refine WP.st (T' := T442) (f' := (mkF m 15 #[.val (.ref a1), .val (.int 0)] [(.ref a1), (.ref tp)])) (fun t k => ?_) ?_
  · refine XS.aloadN X442.here hx rfl (hb hby d3_14) rfl rfl ?_
    exact k
  obtain ⟨T443, X443, e443, st443⟩ := getF X442 hx hZ hown (host := "") (Or.inl (w_10 hw)) Via.refl e442 F_a1_nodes (g := (mkF m 15 #[.val (.ref a1), .val (.int 0)] [(.ref a1), (.ref tp)])) rfl rfl (hb hby d3_15)
  refine WP.st st443 ?_
  clear st443
  show WP p.tables e below _ T443 (mkF m 18 #[.val (.ref a1), .val (.int 0)] [(.ref tn), (.ref tp)])
  refine WP.st (T' := T443) (f' := (mkF m 19 #[.val (.ref a1), .val (.int 0)] [(.int 0), (.ref tn), (.ref tp)])) (fun t k => ?_) ?_
  · refine XS.iloadN X443.here hx rfl (hb hby d3_18) rfl ?_
    exact k
  obtain ⟨cl444, Ar444, hin444, hat444, -⟩ := V_tn.rd (j := (0 : Int32)) ⟨by decide, by decide⟩
  replace hat444 : cl444.slots[((0 : Int32)).toNatClampNeg]? = some (.int 0) := hat444
  refine WP.st (T' := T443) (f' := (mkF m 21 #[.val (.ref a1), .val (.int 0)] [(.int 0), (.int 0), (.ref tp)])) (fun t k => ?_) ?_
  · refine X443.iaload hx (j := (0 : Int32)) (v := (.int 0)) (by rw [e443]; exact Ar444.1) (State.isArrayOf_alike hZ.alike Ar444.2.1) Ar444.2.2 hin444 hat444 (g := (mkF m 19 #[.val (.ref a1), .val (.int 0)] [(.int 0), (.ref tn), (.ref tp)])) rfl rfl (hb hby d3_19) _ ?_
    refine XS.iconst X443.here hx rfl (hb hby d3_20) ?_
    exact k
  obtain ⟨cl445, Ar445, q445, S445, N445, H445, G445⟩ := V_tp
  have hin445 : ¬ ((0 : Int32) < 0 ∨ cl445.slots.size ≤ ((0 : Int32)).toNatClampNeg) := inb_of S445 ⟨by decide, by decide⟩
  obtain ⟨T446, h446, X446, e446, W446, st446⟩ := stI X443 hx hZ e443 Ar445 (j := (0 : Int32)) hin445 (g := (mkF m 21 #[.val (.ref a1), .val (.int 0)] [(.int 0), (.int 0), (.ref tp)])) rfl rfl (hb hby d3_21)
  refine WP.st st446 ?_
  clear st446
  have Vn : Arv Z h446 tp kp .int (3 : Int32) [(.int 0), p1, p2] (.int 0) := Arv.set Ar445 q445 S445 N445 H445 G445 rfl W446 0 rfl (Nat.le_of_ble_eq_true rfl)
  replace E_a1 := E_a1.wr W446
  replace F_a1_nodes := F_a1_nodes.other W446 (Or.inl ne_a1_tp)
  replace F_a1_seconds := F_a1_seconds.other W446 (Or.inl ne_a1_tp)
  replace F_a1_metres := F_a1_metres.other W446 (Or.inl ne_a1_tp)
  replace F_a1_position := F_a1_position.other W446 (Or.inl ne_a1_tp)
  replace F_a1_size := F_a1_size.other W446 (Or.inl ne_a1_tp)
  replace V_tn := V_tn.other W446 ne_tn_tp
  replace V_ts := V_ts.other W446 ne_ts_tp
  replace V_tm := V_tm.other W446 ne_tm_tp
  replace Z0 := Nat.le_trans Z0 (Keep.of_wr W446).1
  replace KP := KP.wr W446 (Or.inl (List.mem_of_getElem? (i := 4) rfl))
  replace V_tp := Vn
  replace NF := Fr.snoc X446 NF g_tp
  clear W446 hin445 q445 S445 N445 H445 G445 Ar445
  show WP p.tables e below _ T446 (mkF m 22 #[.val (.ref a1), .val (.int 0)] [])
  refine WP.st (T' := T446) (f' := (mkF m 25 #[.val (.ref a1), .val (.int ((0 : Int32) + (1 : Int32)))] [])) (fun t k => ?_) ?_
  · refine XS.iinc X446.here hx rfl (hb hby d3_22) rfl (l' := #[.val (.ref a1), .val (.int ((0 : Int32) + (1 : Int32)))]) rfl ?_
    exact k
  rw [show ((0 : Int32) + (1 : Int32)) = (1 : Int32) from by decide]
  show WP p.tables e below _ T446 (mkF m 25 #[.val (.ref a1), .val (.int 1)] [])
  refine WP.st (T' := T446) (f' := (mkF m 4 #[.val (.ref a1), .val (.int 1)] [(.ref a1), (.int 1)])) (fun t k => ?_) ?_
  · refine XS.goto X446.here hx rfl (pc0 := 25) (pc' := 2) rfl (hb hby d3_25) (by decide) (by decide) ?_
    refine XS.iloadN X446.here hx rfl (hb hby d3_2) rfl ?_
    refine XS.aloadN X446.here hx rfl (hb hby d3_3) rfl rfl ?_
    exact k
  obtain ⟨T447, X447, e447, st447⟩ := getF X446 hx hZ hown (host := "") (Or.inl (w_24 hw)) Via.refl e446 F_a1_size (g := (mkF m 4 #[.val (.ref a1), .val (.int 1)] [(.ref a1), (.int 1)])) rfl rfl (hb hby d3_4)
  refine WP.st st447 ?_
  clear st447
  show WP p.tables e below _ T447 (mkF m 7 #[.val (.ref a1), .val (.int 1)] [(.int 3), (.int 1)])
  refine WP.st (T' := T447) (f' := (mkF m 11 #[.val (.ref a1), .val (.int 1)] [(.ref a1)])) (fun t k => ?_) ?_
  · refine XS.icmpNo X447.here hx rfl (hb hby d3_7) rfl (tlt (by decide : (1 : Int32) < (3 : Int32))).2.1 ?_
    refine XS.aloadN X447.here hx rfl (hb hby d3_10) rfl rfl ?_
    exact k
  obtain ⟨T448, X448, e448, st448⟩ := getF X447 hx hZ hown (host := "") (Or.inl (w_17 hw)) Via.refl e447 F_a1_position (g := (mkF m 11 #[.val (.ref a1), .val (.int 1)] [(.ref a1)])) rfl rfl (hb hby d3_11)
  refine WP.st st448 ?_
  clear st448
  show WP p.tables e below _ T448 (mkF m 14 #[.val (.ref a1), .val (.int 1)] [(.ref tp)])
  refine WP.st (T' := T448) (f' := (mkF m 15 #[.val (.ref a1), .val (.int 1)] [(.ref a1), (.ref tp)])) (fun t k => ?_) ?_
  · refine XS.aloadN X448.here hx rfl (hb hby d3_14) rfl rfl ?_
    exact k
  obtain ⟨T449, X449, e449, st449⟩ := getF X448 hx hZ hown (host := "") (Or.inl (w_10 hw)) Via.refl e448 F_a1_nodes (g := (mkF m 15 #[.val (.ref a1), .val (.int 1)] [(.ref a1), (.ref tp)])) rfl rfl (hb hby d3_15)
  refine WP.st st449 ?_
  clear st449
  show WP p.tables e below _ T449 (mkF m 18 #[.val (.ref a1), .val (.int 1)] [(.ref tn), (.ref tp)])
  refine WP.st (T' := T449) (f' := (mkF m 19 #[.val (.ref a1), .val (.int 1)] [(.int 1), (.ref tn), (.ref tp)])) (fun t k => ?_) ?_
  · refine XS.iloadN X449.here hx rfl (hb hby d3_18) rfl ?_
    exact k
  obtain ⟨cl450, Ar450, hin450, hat450, -⟩ := V_tn.rd (j := (1 : Int32)) ⟨by decide, by decide⟩
  replace hat450 : cl450.slots[((1 : Int32)).toNatClampNeg]? = some (.int 2) := hat450
  refine WP.st (T' := T449) (f' := (mkF m 21 #[.val (.ref a1), .val (.int 1)] [(.int 0), (.int 2), (.ref tp)])) (fun t k => ?_) ?_
  · refine X449.iaload hx (j := (1 : Int32)) (v := (.int 2)) (by rw [e449]; exact Ar450.1) (State.isArrayOf_alike hZ.alike Ar450.2.1) Ar450.2.2 hin450 hat450 (g := (mkF m 19 #[.val (.ref a1), .val (.int 1)] [(.int 1), (.ref tn), (.ref tp)])) rfl rfl (hb hby d3_19) _ ?_
    refine XS.iconst X449.here hx rfl (hb hby d3_20) ?_
    exact k
  obtain ⟨cl451, Ar451, q451, S451, N451, H451, G451⟩ := V_tp
  have hin451 : ¬ ((2 : Int32) < 0 ∨ cl451.slots.size ≤ ((2 : Int32)).toNatClampNeg) := inb_of S451 ⟨by decide, by decide⟩
  obtain ⟨T452, h452, X452, e452, W452, st452⟩ := stI X449 hx hZ e449 Ar451 (j := (2 : Int32)) hin451 (g := (mkF m 21 #[.val (.ref a1), .val (.int 1)] [(.int 0), (.int 2), (.ref tp)])) rfl rfl (hb hby d3_21)
  refine WP.st st452 ?_
  clear st452
  have Vn : Arv Z h452 tp kp .int (3 : Int32) [(.int 0), p1, (.int 0)] (.int 0) := Arv.set Ar451 q451 S451 N451 H451 G451 rfl W452 2 rfl (Nat.le_of_ble_eq_true rfl)
  replace E_a1 := E_a1.wr W452
  replace F_a1_nodes := F_a1_nodes.other W452 (Or.inl ne_a1_tp)
  replace F_a1_seconds := F_a1_seconds.other W452 (Or.inl ne_a1_tp)
  replace F_a1_metres := F_a1_metres.other W452 (Or.inl ne_a1_tp)
  replace F_a1_position := F_a1_position.other W452 (Or.inl ne_a1_tp)
  replace F_a1_size := F_a1_size.other W452 (Or.inl ne_a1_tp)
  replace V_tn := V_tn.other W452 ne_tn_tp
  replace V_ts := V_ts.other W452 ne_ts_tp
  replace V_tm := V_tm.other W452 ne_tm_tp
  replace Z0 := Nat.le_trans Z0 (Keep.of_wr W452).1
  replace KP := KP.wr W452 (Or.inl (List.mem_of_getElem? (i := 4) rfl))
  replace V_tp := Vn
  replace NF := Fr.snoc X452 NF g_tp
  clear W452 hin451 q451 S451 N451 H451 G451 Ar451
  show WP p.tables e below _ T452 (mkF m 22 #[.val (.ref a1), .val (.int 1)] [])
  refine WP.st (T' := T452) (f' := (mkF m 25 #[.val (.ref a1), .val (.int ((1 : Int32) + (1 : Int32)))] [])) (fun t k => ?_) ?_
  · refine XS.iinc X452.here hx rfl (hb hby d3_22) rfl (l' := #[.val (.ref a1), .val (.int ((1 : Int32) + (1 : Int32)))]) rfl ?_
    exact k
  rw [show ((1 : Int32) + (1 : Int32)) = (2 : Int32) from by decide]
  show WP p.tables e below _ T452 (mkF m 25 #[.val (.ref a1), .val (.int 2)] [])
  refine WP.st (T' := T452) (f' := (mkF m 4 #[.val (.ref a1), .val (.int 2)] [(.ref a1), (.int 2)])) (fun t k => ?_) ?_
  · refine XS.goto X452.here hx rfl (pc0 := 25) (pc' := 2) rfl (hb hby d3_25) (by decide) (by decide) ?_
    refine XS.iloadN X452.here hx rfl (hb hby d3_2) rfl ?_
    refine XS.aloadN X452.here hx rfl (hb hby d3_3) rfl rfl ?_
    exact k
  obtain ⟨T453, X453, e453, st453⟩ := getF X452 hx hZ hown (host := "") (Or.inl (w_24 hw)) Via.refl e452 F_a1_size (g := (mkF m 4 #[.val (.ref a1), .val (.int 2)] [(.ref a1), (.int 2)])) rfl rfl (hb hby d3_4)
  refine WP.st st453 ?_
  clear st453
  show WP p.tables e below _ T453 (mkF m 7 #[.val (.ref a1), .val (.int 2)] [(.int 3), (.int 2)])
  refine WP.st (T' := T453) (f' := (mkF m 11 #[.val (.ref a1), .val (.int 2)] [(.ref a1)])) (fun t k => ?_) ?_
  · refine XS.icmpNo X453.here hx rfl (hb hby d3_7) rfl (tlt (by decide : (2 : Int32) < (3 : Int32))).2.1 ?_
    refine XS.aloadN X453.here hx rfl (hb hby d3_10) rfl rfl ?_
    exact k
  obtain ⟨T454, X454, e454, st454⟩ := getF X453 hx hZ hown (host := "") (Or.inl (w_17 hw)) Via.refl e453 F_a1_position (g := (mkF m 11 #[.val (.ref a1), .val (.int 2)] [(.ref a1)])) rfl rfl (hb hby d3_11)
  refine WP.st st454 ?_
  clear st454
  show WP p.tables e below _ T454 (mkF m 14 #[.val (.ref a1), .val (.int 2)] [(.ref tp)])
  refine WP.st (T' := T454) (f' := (mkF m 15 #[.val (.ref a1), .val (.int 2)] [(.ref a1), (.ref tp)])) (fun t k => ?_) ?_
  · refine XS.aloadN X454.here hx rfl (hb hby d3_14) rfl rfl ?_
    exact k
  obtain ⟨T455, X455, e455, st455⟩ := getF X454 hx hZ hown (host := "") (Or.inl (w_10 hw)) Via.refl e454 F_a1_nodes (g := (mkF m 15 #[.val (.ref a1), .val (.int 2)] [(.ref a1), (.ref tp)])) rfl rfl (hb hby d3_15)
  refine WP.st st455 ?_
  clear st455
  show WP p.tables e below _ T455 (mkF m 18 #[.val (.ref a1), .val (.int 2)] [(.ref tn), (.ref tp)])
  refine WP.st (T' := T455) (f' := (mkF m 19 #[.val (.ref a1), .val (.int 2)] [(.int 2), (.ref tn), (.ref tp)])) (fun t k => ?_) ?_
  · refine XS.iloadN X455.here hx rfl (hb hby d3_18) rfl ?_
    exact k
  obtain ⟨cl456, Ar456, hin456, hat456, -⟩ := V_tn.rd (j := (2 : Int32)) ⟨by decide, by decide⟩
  replace hat456 : cl456.slots[((2 : Int32)).toNatClampNeg]? = some (.int 1) := hat456
  refine WP.st (T' := T455) (f' := (mkF m 21 #[.val (.ref a1), .val (.int 2)] [(.int 0), (.int 1), (.ref tp)])) (fun t k => ?_) ?_
  · refine X455.iaload hx (j := (2 : Int32)) (v := (.int 1)) (by rw [e455]; exact Ar456.1) (State.isArrayOf_alike hZ.alike Ar456.2.1) Ar456.2.2 hin456 hat456 (g := (mkF m 19 #[.val (.ref a1), .val (.int 2)] [(.int 2), (.ref tn), (.ref tp)])) rfl rfl (hb hby d3_19) _ ?_
    refine XS.iconst X455.here hx rfl (hb hby d3_20) ?_
    exact k
  obtain ⟨cl457, Ar457, q457, S457, N457, H457, G457⟩ := V_tp
  have hin457 : ¬ ((1 : Int32) < 0 ∨ cl457.slots.size ≤ ((1 : Int32)).toNatClampNeg) := inb_of S457 ⟨by decide, by decide⟩
  obtain ⟨T458, h458, X458, e458, W458, st458⟩ := stI X455 hx hZ e455 Ar457 (j := (1 : Int32)) hin457 (g := (mkF m 21 #[.val (.ref a1), .val (.int 2)] [(.int 0), (.int 1), (.ref tp)])) rfl rfl (hb hby d3_21)
  refine WP.st st458 ?_
  clear st458
  have Vn : Arv Z h458 tp kp .int (3 : Int32) [(.int 0), (.int 0), (.int 0)] (.int 0) := Arv.set Ar457 q457 S457 N457 H457 G457 rfl W458 1 rfl (Nat.le_of_ble_eq_true rfl)
  replace E_a1 := E_a1.wr W458
  replace F_a1_nodes := F_a1_nodes.other W458 (Or.inl ne_a1_tp)
  replace F_a1_seconds := F_a1_seconds.other W458 (Or.inl ne_a1_tp)
  replace F_a1_metres := F_a1_metres.other W458 (Or.inl ne_a1_tp)
  replace F_a1_position := F_a1_position.other W458 (Or.inl ne_a1_tp)
  replace F_a1_size := F_a1_size.other W458 (Or.inl ne_a1_tp)
  replace V_tn := V_tn.other W458 ne_tn_tp
  replace V_ts := V_ts.other W458 ne_ts_tp
  replace V_tm := V_tm.other W458 ne_tm_tp
  replace Z0 := Nat.le_trans Z0 (Keep.of_wr W458).1
  replace KP := KP.wr W458 (Or.inl (List.mem_of_getElem? (i := 4) rfl))
  replace V_tp := Vn
  replace NF := Fr.snoc X458 NF g_tp
  clear W458 hin457 q457 S457 N457 H457 G457 Ar457
  show WP p.tables e below _ T458 (mkF m 22 #[.val (.ref a1), .val (.int 2)] [])
  refine WP.st (T' := T458) (f' := (mkF m 25 #[.val (.ref a1), .val (.int ((2 : Int32) + (1 : Int32)))] [])) (fun t k => ?_) ?_
  · refine XS.iinc X458.here hx rfl (hb hby d3_22) rfl (l' := #[.val (.ref a1), .val (.int ((2 : Int32) + (1 : Int32)))]) rfl ?_
    exact k
  rw [show ((2 : Int32) + (1 : Int32)) = (3 : Int32) from by decide]
  show WP p.tables e below _ T458 (mkF m 25 #[.val (.ref a1), .val (.int 3)] [])
  refine WP.st (T' := T458) (f' := (mkF m 4 #[.val (.ref a1), .val (.int 3)] [(.ref a1), (.int 3)])) (fun t k => ?_) ?_
  · refine XS.goto X458.here hx rfl (pc0 := 25) (pc' := 2) rfl (hb hby d3_25) (by decide) (by decide) ?_
    refine XS.iloadN X458.here hx rfl (hb hby d3_2) rfl ?_
    refine XS.aloadN X458.here hx rfl (hb hby d3_3) rfl rfl ?_
    exact k
  obtain ⟨T459, X459, e459, st459⟩ := getF X458 hx hZ hown (host := "") (Or.inl (w_24 hw)) Via.refl e458 F_a1_size (g := (mkF m 4 #[.val (.ref a1), .val (.int 3)] [(.ref a1), (.int 3)])) rfl rfl (hb hby d3_4)
  refine WP.st st459 ?_
  clear st459
  show WP p.tables e below _ T459 (mkF m 7 #[.val (.ref a1), .val (.int 3)] [(.int 3), (.int 3)])
  refine WP.st (T' := T459) (f' := (mkF m 30 #[.val (.ref a1), .val (.int 3)] [(.int 0), (.ref a1)])) (fun t k => ?_) ?_
  · refine XS.icmpYes X459.here hx rfl (pc0 := 7) (pc' := 28) rfl (hb hby d3_7) rfl (flt (by decide : ¬ ((3 : Int32) < (3 : Int32)))).2.1 (by decide) (by decide) ?_
    refine XS.aloadN X459.here hx rfl (hb hby d3_28) rfl rfl ?_
    refine XS.iconst X459.here hx rfl (hb hby d3_29) ?_
    exact k
  obtain ⟨T460, h460, X460, e460, W460, st460⟩ := putF X459 hx hZ hown (host := "") (Or.inl (w_24 hw)) Via.refl e459 F_a1_size E_a1 (Or.inl (w_25 hw)) (w_1 hw) (ty := .int) (by decide) rfl rfl (g := (mkF m 30 #[.val (.ref a1), .val (.int 3)] [(.int 0), (.ref a1)])) rfl rfl (hb hby d3_30)
  refine WP.st st460 ?_
  clear st460
  replace E_a1 := E_a1.wr W460
  replace F_a1_nodes := F_a1_nodes.other W460 (Or.inr (sn_16 hw))
  replace F_a1_seconds := F_a1_seconds.other W460 (Or.inr (sn_17 hw))
  replace F_a1_metres := F_a1_metres.other W460 (Or.inr (sn_18 hw))
  replace F_a1_position := F_a1_position.other W460 (Or.inr (sn_19 hw))
  replace F_a1_size := F_a1_size.same W460
  replace V_tn := V_tn.other W460 (Ne.symm ne_a1_tn)
  replace V_ts := V_ts.other W460 (Ne.symm ne_a1_ts)
  replace V_tm := V_tm.other W460 (Ne.symm ne_a1_tm)
  replace V_tp := V_tp.other W460 (Ne.symm ne_a1_tp)
  replace Z0 := Nat.le_trans Z0 (Keep.of_wr W460).1
  replace KP := KP.wr W460 (Or.inl (List.mem_of_getElem? (i := 0) rfl))
  replace NF := Fr.snoc X460 NF g_a1
  clear W460
  show WP p.tables e below _ T460 (mkF m 33 #[.val (.ref a1), .val (.int 3)] [])
  subst hG
  obtain ⟨fs, hr, hrun, hended, hW, hsame⟩ := X460.leave (v := none) (fun _ => rfl)
  refine WP.fin ⟨_, _, ?_, hrun, hended, _, _, rfl, ?_, ⟨_, rfl⟩, hW, hsame.mono (by decide) (by decide)⟩
  · exact X460.returnOut hx Bd.returns (hb hby d3_33) hr
  · show Q3t45 Z a1 tn ts tm tp kn ks km kp s0 s1 s2 m0 m1 m2 p0 p1 p2 h0 n0 _ T460.heap _
    rw [e460]
    exact ⟨rfl, NF, KP, F_a1_nodes, F_a1_seconds, F_a1_metres, F_a1_position, F_a1_size, V_tn, V_ts, V_tm, V_tp⟩
def Q0 (Z : State) (p1 : Int32) (p2 : Int32) (p3 : Int32) (p4 : Int32) (p5 : Int32) (p6 : Int32) (h0 : Heap) (n0 : Nat) (v : Option Value) (h : Heap) (L : List Loc) : Prop := v = some (.int 1) ∧ Fr n0 L
set_option maxRecDepth 65536 in
set_option maxHeartbeats 40000000 in
theorem rm0 (l : Launch) (Z : State) (a0 : Array Value) (hw : ∀ d ∈ tables_1, d.before a0 Z = true) (wsC : List Jvm.Cond) (p1 : Int32) (p2 : Int32) (p3 : Int32) (p4 : Int32) (p5 : Int32) (p6 : Int32) (h0 : Heap) (n0 : Nat) (Z0 : n0 ≤ h0.size)  :
    MetFree l x (head1 (Jvm.Cond.code x code maxLocals ret :: wsC) room_1) (fun a U => a = #[(.int p1), (.int p2), (.int p3), (.int p4), (.int p5), (.int p6)] ∧ Z.Warmed39 U.vm ∧ U.heap = h0) (fun _ _ _ _ _ => True) (fun _ U o U' => ∃ v L, o = .returned v ∧ Q0 Z p1 p2 p3 p4 p5 p6 h0 n0 v U'.heap L ∧ FrameEnd U o U' L room_1.cells room_1.slots) := by
  refine MetFree.of_bodySF (plainFor_of_name pn_1) hisR ?_
  intro p e s m args below meth c s₁ Bd hml0 hP hK
  obtain ⟨rfl, hZ, hh⟩ := hP
  have hx := Bd.exec
  have hby := Bd.bytes
  have hml : c.maxLocals = 12 := hml0
  have hown : s.vm.findClass "com/example/tandemcab/tandemcab/NodeQueueClearPinLaw" = some m.cls := findClass_of_methodNamed Bd.named
  have hnm := (name_of_methodNamed Bd.named Bd.method).1
  have X0 : Stand p l e room_1 s m #[(.int p1), (.int p2), (.int p3), (.int p4), (.int p5), (.int p6)] below meth c s₁ [] 0 0 := Stand.of_body Bd
  have e0 : s₁.heap = h0 := by rw [← hh, Bd.state]; rfl
  have NF := Fr.nil n0
  refine WP.go ?_
  refine WP.cast (ef_0 m p1 p2 p3 p4 p5 p6) ?_
  refine WP.name ?_
  intro G hG
  refine WP.st (T' := s₁) (f' := (mkF m 5 #[.val (.int p1), .val (.int p2), .val (.int p3), .val (.int p4), .val (.int p5), .val (.int p6), .val (.int (p1 &&& (3 : Int32))), .unset, .unset, .unset, .unset, .unset] [])) (fun t k => ?_) ?_
  · refine XS.iloadN X0.here hx rfl (hb hby at_0) rfl ?_
    refine XS.iconst X0.here hx rfl (hb hby at_1) ?_
    refine XS.iand X0.here hx rfl (hb hby at_2) rfl ?_
    refine XS.istore X0.here hx rfl (hb hby at_3) rfl (l' := #[.val (.int p1), .val (.int p2), .val (.int p3), .val (.int p4), .val (.int p5), .val (.int p6), .val (.int (p1 &&& (3 : Int32))), .unset, .unset, .unset, .unset, .unset]) rfl ?_
    exact k
  obtain ⟨T15, h15, X15, e15, E15, A15, D15, -, st15⟩ := newO X0 hx hZ hown (w_0 hw) (w_1 hw) (w_2 hw) e0 (g := (mkF m 5 #[.val (.int p1), .val (.int p2), .val (.int p3), .val (.int p4), .val (.int p5), .val (.int p6), .val (.int (p1 &&& (3 : Int32))), .unset, .unset, .unset, .unset, .unset] [])) rfl (hb hby at_5) (by decide) (by decide)
  obtain ⟨b15, g15⟩ : ∃ z, z = h0.size := ⟨_, rfl⟩
  rw [← g15] at A15 D15 st15
  refine WP.st st15 ?_
  clear st15
  have g_b15 : n0 ≤ b15 := Nat.le_trans Z0 (Nat.le_of_eq g15.symm)
  replace Z0 := Nat.le_trans Z0 E15.1
  have E_b15 := A15
  have F_b15_nodes : Fld Z h15 b15 "com/example/tandemcab/tandemcab/NodeQueue" "nodes" "[I" .null := D15 (Or.inr (w_11 hw)) (ty := (.array .int)) (by decide)
  have F_b15_seconds : Fld Z h15 b15 "com/example/tandemcab/tandemcab/NodeQueue" "seconds" "[D" .null := D15 (Or.inr (w_14 hw)) (ty := (.array .double)) (by decide)
  have F_b15_metres : Fld Z h15 b15 "com/example/tandemcab/tandemcab/NodeQueue" "metres" "[D" .null := D15 (Or.inr (w_16 hw)) (ty := (.array .double)) (by decide)
  have F_b15_position : Fld Z h15 b15 "com/example/tandemcab/tandemcab/NodeQueue" "position" "[I" .null := D15 (Or.inr (w_18 hw)) (ty := (.array .int)) (by decide)
  have F_b15_size : Fld Z h15 b15 "com/example/tandemcab/tandemcab/NodeQueue" "size" "I" (.int 0) := D15 (Or.inl (w_25 hw)) (ty := .int) (by decide)
  clear D15 A15
  show WP p.tables e below _ T15 (mkF m 8 #[.val (.int p1), .val (.int p2), .val (.int p3), .val (.int p4), .val (.int p5), .val (.int p6), .val (.int (p1 &&& (3 : Int32))), .unset, .unset, .unset, .unset, .unset] [(.ref b15)])
  refine WP.st (T' := T15) (f' := (mkF m 10 #[.val (.int p1), .val (.int p2), .val (.int p3), .val (.int p4), .val (.int p5), .val (.int p6), .val (.int (p1 &&& (3 : Int32))), .unset, .unset, .unset, .unset, .unset] [(.int 3), (.ref b15), (.ref b15)])) (fun t k => ?_) ?_
  · refine XS.dup X15.here hx rfl (hb hby at_8) rfl rfl ?_
    refine XS.iconst X15.here hx rfl (hb hby at_9) ?_
    exact k
  obtain ⟨_, _, ⟨T16, L16, k16, n16⟩, -, X16, ⟨Lc16, hQ16, l16, y16, z16⟩, st16⟩ := X15.specialBack hx (y := (⟨"com/example/tandemcab/tandemcab/NodeQueue", "<init>", "(I)V"⟩ : MethodName)) rfl hown (mvT hZ (w_3 hw)) (mvT hZ (w_4 hw)) (mvT hZ (w_5 hw)) (by decide) (backOf (W := 1) (rm1 l Z a0 hw [] b15 Value.null Value.null Value.null Value.null (0 : Int32) h15 n0 Z0 E_b15 g_b15 F_b15_nodes F_b15_seconds F_b15_metres F_b15_position F_b15_size) hZ (w_5 hw) (w_2 hw) (by decide) (by decide)) (g := (mkF m 10 #[.val (.int p1), .val (.int p2), .val (.int p3), .val (.int p4), .val (.int p5), .val (.int p6), .val (.int (p1 &&& (3 : Int32))), .unset, .unset, .unset, .unset, .unset] [(.int 3), (.ref b15), (.ref b15)])) rfl (by rw [hml]; rfl) (Steps.refl _) (a := b15) (argsL := [(.int 3)]) (rest := [(.ref b15)]) (lenOf pd_0 rfl) rfl (by show 2 * 0 + _ ≤ _; exact Nat.le_of_eq rfl) (hb hby at_10) (fun _ _ => ⟨rfl, e15, (by decide : 1 + 4 ≤ _), (by decide : 5 + 12 ≤ _)⟩)
  dsimp only [Pt.U, Pt.locs, Pt.cells, Pt.slots] at X16 l16 y16 z16 st16 hQ16
  subst l16 y16 z16
  obtain ⟨tn_16, ts_16, tm_16, tp_16, kn_16, ks_16, km_16, kp_16, rfl, Nq16, Kq16, nF16_b15_nodes, nF16_b15_seconds, nF16_b15_metres, nF16_b15_position, nF16_b15_size, szq_tn_16, g_tn_16, szq_ts_16, g_ts_16, szq_tm_16, g_tm_16, szq_tp_16, g_tp_16, ne_tn_16_ts_16, ne_tn_16_tm_16, ne_tn_16_tp_16, ne_ts_16_tm_16, ne_ts_16_tp_16, ne_tm_16_tp_16, nA16_tn_16, nA16_ts_16, nA16_tm_16, nA16_tp_16⟩ := hQ16
  replace NF := Fr.app NF Nq16
  clear Nq16
  refine WP.tr st16 ?_
  clear st16
  obtain ⟨h16, e16⟩ : ∃ h, T16.heap = h := ⟨_, rfl⟩
  rw [e16] at Kq16 nF16_b15_nodes nF16_b15_seconds nF16_b15_metres nF16_b15_position nF16_b15_size nA16_tn_16 nA16_ts_16 nA16_tm_16 nA16_tp_16
  have ne_b15_tn_16 : b15 ≠ tn_16 := Nat.ne_of_lt (Nat.lt_of_lt_of_le E_b15.lt szq_tn_16)
  have ne_b15_ts_16 : b15 ≠ ts_16 := Nat.ne_of_lt (Nat.lt_of_lt_of_le E_b15.lt szq_ts_16)
  have ne_b15_tm_16 : b15 ≠ tm_16 := Nat.ne_of_lt (Nat.lt_of_lt_of_le E_b15.lt szq_tm_16)
  have ne_b15_tp_16 : b15 ≠ tp_16 := Nat.ne_of_lt (Nat.lt_of_lt_of_le E_b15.lt szq_tp_16)
  replace E_b15 := E_b15.keep Kq16
  clear F_b15_nodes
  clear F_b15_seconds
  clear F_b15_metres
  clear F_b15_position
  clear F_b15_size
  replace Z0 := Nat.le_trans Z0 Kq16.1
  clear Kq16
  have F_b15_nodes := nF16_b15_nodes
  clear nF16_b15_nodes
  have F_b15_seconds := nF16_b15_seconds
  clear nF16_b15_seconds
  have F_b15_metres := nF16_b15_metres
  clear nF16_b15_metres
  have F_b15_position := nF16_b15_position
  clear nF16_b15_position
  have F_b15_size := nF16_b15_size
  clear nF16_b15_size
  have V_tn_16 := nA16_tn_16
  clear nA16_tn_16
  have V_ts_16 := nA16_ts_16
  clear nA16_ts_16
  have V_tm_16 := nA16_tm_16
  clear nA16_tm_16
  have V_tp_16 := nA16_tp_16
  clear nA16_tp_16
  show WP p.tables e below _ T16 (mkF m 13 #[.val (.int p1), .val (.int p2), .val (.int p3), .val (.int p4), .val (.int p5), .val (.int p6), .val (.int (p1 &&& (3 : Int32))), .unset, .unset, .unset, .unset, .unset] [(.ref b15)])
  refine WP.st (T' := T16) (f' := (mkF m 15 #[.val (.int p1), .val (.int p2), .val (.int p3), .val (.int p4), .val (.int p5), .val (.int p6), .val (.int (p1 &&& (3 : Int32))), .val (.ref b15), .unset, .unset, .unset, .unset] [])) (fun t k => ?_) ?_
  · refine XS.astore X16.here hx rfl (hb hby at_13) rfl rfl (l' := #[.val (.int p1), .val (.int p2), .val (.int p3), .val (.int p4), .val (.int p5), .val (.int p6), .val (.int (p1 &&& (3 : Int32))), .val (.ref b15), .unset, .unset, .unset, .unset]) rfl ?_
    exact k
  have J17 : ∀ (Tj17 : State) (Lj17 : List Loc) (hj17 : Heap) (nn : Int32) (jnd0 : Value) (jnd1 : Value) (jnd2 : Value) (js0 : Value) (js1 : Value) (js2 : Value) (jm0 : Value) (jm1 : Value) (jm2 : Value), Stand p l e room_1 s m #[(.int p1), (.int p2), (.int p3), (.int p4), (.int p5), (.int p6)] below meth c Tj17 Lj17 5 17 → Tj17.heap = hj17 → Fr n0 Lj17 → n0 ≤ hj17.size → Exa Z hj17 b15 "com/example/tandemcab/tandemcab/NodeQueue" → Fld Z hj17 b15 "com/example/tandemcab/tandemcab/NodeQueue" "nodes" "[I" (.ref tn_16) → Fld Z hj17 b15 "com/example/tandemcab/tandemcab/NodeQueue" "seconds" "[D" (.ref ts_16) → Fld Z hj17 b15 "com/example/tandemcab/tandemcab/NodeQueue" "metres" "[D" (.ref tm_16) → Fld Z hj17 b15 "com/example/tandemcab/tandemcab/NodeQueue" "position" "[I" (.ref tp_16) → Fld Z hj17 b15 "com/example/tandemcab/tandemcab/NodeQueue" "size" "I" (.int 0) → Arv Z hj17 tn_16 kn_16 .int (3 : Int32) [jnd0, jnd1, jnd2] (.int 0) → Arv Z hj17 ts_16 ks_16 .double (3 : Int32) [js0, js1, js2] (.double 0) → Arv Z hj17 tm_16 km_16 .double (3 : Int32) [jm0, jm1, jm2] (.double 0) → Arv Z hj17 tp_16 kp_16 .int (3 : Int32) [(.int 0), (.int 0), (.int 0)] (.int 0) → WP p.tables e below G Tj17 (mkF m 74 #[.val (.int p1), .val (.int p2), .val (.int p3), .val (.int p4), .val (.int p5), .val (.int p6), .val (.int nn), .val (.ref b15), .unset, .unset, .unset, .unset] []) := by
    clear E_b15
    clear F_b15_nodes
    clear F_b15_seconds
    clear F_b15_metres
    clear F_b15_position
    clear F_b15_size
    clear V_tn_16
    clear V_ts_16
    clear V_tm_16
    clear V_tp_16
    clear Z0 NF
    intro Tj17 Lj17 hj17 nn jnd0 jnd1 jnd2 js0 js1 js2 jm0 jm1 jm2 X17 ej17 NF Z0 E_b15 F_b15_nodes F_b15_seconds F_b15_metres F_b15_position F_b15_size V_tn_16 V_ts_16 V_tm_16 V_tp_16
    refine WP.st (T' := Tj17) (f' := (mkF m 76 #[.val (.int p1), .val (.int p2), .val (.int p3), .val (.int p4), .val (.int p5), .val (.int p6), .val (.int nn), .val (.ref b15), .unset, .unset, .unset, .unset] [(.ref b15)])) (fun t k => ?_) ?_
    · refine XS.aload X17.here hx rfl (hb hby at_74) rfl rfl ?_
      exact k
    obtain ⟨cq18, kq18, q18a, q18b, q18c⟩ := isOf hZ ej17 E_b15
    obtain ⟨_, _, ⟨T18, L18, k18, n18⟩, -, X18, ⟨Lc18, hQ18, l18, y18, z18⟩, st18⟩ := X17.virtualBack hx (y := (⟨"com/example/tandemcab/tandemcab/NodeQueue", "isEmpty", "()Z"⟩ : MethodName)) (z := (⟨"com/example/tandemcab/tandemcab/NodeQueue", "isEmpty", "()Z"⟩ : MethodName)) hown (mvT hZ (w_26 hw)) (mvT hZ (w_27 hw)) (notFace_of_selects (args := #[]) (mvT hZ (w_29 hw))) (mvT hZ (w_29 hw)) (mvT hZ (w_28 hw)) (by decide) (backOf (W := 0) (rm4 l Z a0 hw [] b15 (0 : Int32) hj17 n0 Z0 F_b15_size) hZ (w_30 hw) (w_2 hw) (by decide) (by decide)) q18a q18c (g := (mkF m 76 #[.val (.int p1), .val (.int p2), .val (.int p3), .val (.int p4), .val (.int p5), .val (.int p6), .val (.int nn), .val (.ref b15), .unset, .unset, .unset, .unset] [(.ref b15)])) rfl (by rw [hml]; rfl) (Steps.refl _) (argsL := []) (rest := []) (lenOf pd_1 rfl) rfl (by show 2 * 0 + _ ≤ _; exact Nat.le_of_eq rfl) (hb hby at_76) (fun _ _ => ⟨rfl, ej17, (by decide : 5 + 0 ≤ _), (by decide : 17 + 0 ≤ _)⟩)
    dsimp only [Pt.U, Pt.locs, Pt.cells, Pt.slots] at X18 l18 y18 z18 st18 hQ18
    subst l18 y18 z18
    obtain ⟨rfl, Nq18, Kq18⟩ := hQ18
    replace NF := Fr.app NF Nq18
    clear Nq18
    refine WP.tr st18 ?_
    clear st18
    replace Kq18 := Kq18.trans (rfl : hj17 = hj17)
    show WP p.tables e below _ T18 (mkF m 79 #[.val (.int p1), .val (.int p2), .val (.int p3), .val (.int p4), .val (.int p5), .val (.int p6), .val (.int nn), .val (.ref b15), .unset, .unset, .unset, .unset] [(.int (if (0 : Int32) = 0 then (1 : Int32) else 0))])
    rw [show (if (0 : Int32) = 0 then (1 : Int32) else 0) = (1 : Int32) from by decide]
    show WP p.tables e below _ T18 (mkF m 79 #[.val (.int p1), .val (.int p2), .val (.int p3), .val (.int p4), .val (.int p5), .val (.int p6), .val (.int nn), .val (.ref b15), .unset, .unset, .unset, .unset] [(.int 1)])
    refine WP.st (T' := T18) (f' := (mkF m 88 #[.val (.int p1), .val (.int p2), .val (.int p3), .val (.int p4), .val (.int p5), .val (.int p6), .val (.int nn), .val (.ref b15), .val (.int 1), .unset, .unset, .unset] [(.double (4617315517961601024 : UInt64)), (.double FP.dconst1), (.int 0), (.ref b15)])) (fun t k => ?_) ?_
    · refine XS.istore X18.here hx rfl (hb hby at_79) rfl (l' := #[.val (.int p1), .val (.int p2), .val (.int p3), .val (.int p4), .val (.int p5), .val (.int p6), .val (.int nn), .val (.ref b15), .val (.int 1), .unset, .unset, .unset]) rfl ?_
      refine XS.aload X18.here hx rfl (hb hby at_81) rfl rfl ?_
      refine XS.iconst X18.here hx rfl (hb hby at_83) ?_
      refine XS.dconst1 X18.here hx rfl (hb hby at_84) rfl ?_
      refine X18.ldc2DoubleC hx hown (mvT hZ (w_31 hw)) (g := (mkF m 85 #[.val (.int p1), .val (.int p2), .val (.int p3), .val (.int p4), .val (.int p5), .val (.int p6), .val (.int nn), .val (.ref b15), .val (.int 1), .unset, .unset, .unset] [(.double FP.dconst1), (.int 0), (.ref b15)])) rfl (hb hby at_85) _ ?_
      exact k
    obtain ⟨cq37, kq37, q37a, q37b, q37c⟩ := isOf hZ Kq18 E_b15
    obtain ⟨_, _, ⟨T37, L37, k37, n37⟩, -, X37, ⟨Lc37, hQ37, l37, y37, z37⟩, st37⟩ := X18.virtualBack hx (y := (⟨"com/example/tandemcab/tandemcab/NodeQueue", "offer", "(IDD)V"⟩ : MethodName)) (z := (⟨"com/example/tandemcab/tandemcab/NodeQueue", "offer", "(IDD)V"⟩ : MethodName)) hown (mvT hZ (w_32 hw)) (mvT hZ (w_33 hw)) (notFace_of_selects (args := #[]) (mvT hZ (w_35 hw))) (mvT hZ (w_35 hw)) (mvT hZ (w_34 hw)) (by decide) (backOf (W := 0) (rm5t0 l Z a0 hw [] b15 FP.dconst1 (4617315517961601024 : UInt64) tn_16 ts_16 tm_16 tp_16 kn_16 ks_16 km_16 kp_16 jnd0 jnd1 jnd2 js0 js1 js2 jm0 jm1 jm2 (.int 0) (.int 0) hj17 n0 Z0 E_b15 F_b15_nodes F_b15_seconds F_b15_metres F_b15_position F_b15_size V_tn_16 V_ts_16 V_tm_16 V_tp_16 g_b15 g_tn_16 g_ts_16 g_tm_16 g_tp_16 ne_b15_tn_16 ne_b15_ts_16 ne_b15_tm_16 ne_b15_tp_16 ne_tn_16_ts_16 ne_tn_16_tm_16 ne_tn_16_tp_16 ne_ts_16_tm_16 ne_ts_16_tp_16 ne_tm_16_tp_16) hZ (w_36 hw) (w_2 hw) (by decide) (by decide)) q37a q37c (g := (mkF m 88 #[.val (.int p1), .val (.int p2), .val (.int p3), .val (.int p4), .val (.int p5), .val (.int p6), .val (.int nn), .val (.ref b15), .val (.int 1), .unset, .unset, .unset] [(.double (4617315517961601024 : UInt64)), (.double FP.dconst1), (.int 0), (.ref b15)])) rfl (by rw [hml]; rfl) (Steps.refl _) (argsL := [(.int 0), (.double FP.dconst1), (.double (4617315517961601024 : UInt64))]) (rest := []) (lenOf pd_3 rfl) rfl (by show 2 * 0 + _ ≤ _; exact Nat.le_of_eq rfl) (hb hby at_88) (fun _ _ => ⟨rfl, Kq18, (by decide : 5 + 0 ≤ _), (by decide : 17 + 0 ≤ _)⟩)
    dsimp only [Pt.U, Pt.locs, Pt.cells, Pt.slots] at X37 l37 y37 z37 st37 hQ37
    subst l37 y37 z37
    obtain ⟨rfl, Nq37, Kq37, nF37_b15_nodes, nF37_b15_seconds, nF37_b15_metres, nF37_b15_position, nF37_b15_size, nA37_tn_16, nA37_ts_16, nA37_tm_16, nA37_tp_16⟩ := hQ37
    replace NF := Fr.app NF Nq37
    clear Nq37
    refine WP.tr st37 ?_
    clear st37
    obtain ⟨h37, e37⟩ : ∃ h, T37.heap = h := ⟨_, rfl⟩
    rw [e37] at Kq37 nF37_b15_nodes nF37_b15_seconds nF37_b15_metres nF37_b15_position nF37_b15_size nA37_tn_16 nA37_ts_16 nA37_tm_16 nA37_tp_16
    replace E_b15 := E_b15.keep Kq37
    clear F_b15_nodes
    clear F_b15_seconds
    clear F_b15_metres
    clear F_b15_position
    clear F_b15_size
    clear V_tn_16
    clear V_ts_16
    clear V_tm_16
    clear V_tp_16
    replace Z0 := Nat.le_trans Z0 Kq37.1
    clear Kq37
    have F_b15_nodes := nF37_b15_nodes
    clear nF37_b15_nodes
    have F_b15_seconds := nF37_b15_seconds
    clear nF37_b15_seconds
    have F_b15_metres := nF37_b15_metres
    clear nF37_b15_metres
    have F_b15_position := nF37_b15_position
    clear nF37_b15_position
    have F_b15_size := nF37_b15_size
    clear nF37_b15_size
    have V_tn_16 := nA37_tn_16
    clear nA37_tn_16
    have V_ts_16 := nA37_ts_16
    clear nA37_ts_16
    have V_tm_16 := nA37_tm_16
    clear nA37_tm_16
    have V_tp_16 := nA37_tp_16
    clear nA37_tp_16
    show WP p.tables e below _ T37 (mkF m 91 #[.val (.int p1), .val (.int p2), .val (.int p3), .val (.int p4), .val (.int p5), .val (.int p6), .val (.int nn), .val (.ref b15), .val (.int 1), .unset, .unset, .unset] [])
    refine WP.st (T' := T37) (f' := (mkF m 98 #[.val (.int p1), .val (.int p2), .val (.int p3), .val (.int p4), .val (.int p5), .val (.int p6), .val (.int nn), .val (.ref b15), .val (.int 1), .unset, .unset, .unset] [(.double (4611686018427387904 : UInt64)), (.double FP.dconst1), (.int 1), (.ref b15)])) (fun t k => ?_) ?_
    · refine XS.aload X37.here hx rfl (hb hby at_91) rfl rfl ?_
      refine XS.iconst X37.here hx rfl (hb hby at_93) ?_
      refine XS.dconst1 X37.here hx rfl (hb hby at_94) rfl ?_
      refine X37.ldc2DoubleC hx hown (mvT hZ (w_45 hw)) (g := (mkF m 95 #[.val (.int p1), .val (.int p2), .val (.int p3), .val (.int p4), .val (.int p5), .val (.int p6), .val (.int nn), .val (.ref b15), .val (.int 1), .unset, .unset, .unset] [(.double FP.dconst1), (.int 1), (.ref b15)])) rfl (hb hby at_95) _ ?_
      exact k
    obtain ⟨cq81, kq81, q81a, q81b, q81c⟩ := isOf hZ e37 E_b15
    obtain ⟨_, _, ⟨T81, L81, k81, n81⟩, -, X81, ⟨Lc81, hQ81, l81, y81, z81⟩, st81⟩ := X37.virtualBack hx (y := (⟨"com/example/tandemcab/tandemcab/NodeQueue", "offer", "(IDD)V"⟩ : MethodName)) (z := (⟨"com/example/tandemcab/tandemcab/NodeQueue", "offer", "(IDD)V"⟩ : MethodName)) hown (mvT hZ (w_32 hw)) (mvT hZ (w_33 hw)) (notFace_of_selects (args := #[]) (mvT hZ (w_35 hw))) (mvT hZ (w_35 hw)) (mvT hZ (w_34 hw)) (by decide) (backOf (W := 0) (rm5t3 l Z a0 hw [] b15 FP.dconst1 (4611686018427387904 : UInt64) tn_16 ts_16 tm_16 tp_16 kn_16 ks_16 km_16 kp_16 jnd1 jnd2 FP.dconst1 js1 js2 (4617315517961601024 : UInt64) jm1 jm2 (.int 1) (.int 0) h37 n0 Z0 E_b15 F_b15_nodes F_b15_seconds F_b15_metres F_b15_position F_b15_size V_tn_16 V_ts_16 V_tm_16 V_tp_16 g_b15 g_tn_16 g_ts_16 g_tm_16 g_tp_16 ne_b15_tn_16 ne_b15_ts_16 ne_b15_tm_16 ne_b15_tp_16 ne_tn_16_ts_16 ne_tn_16_tm_16 ne_tn_16_tp_16 ne_ts_16_tm_16 ne_ts_16_tp_16 ne_tm_16_tp_16 (by decide +kernel : ¬ ((own_before FP.dconst1 (4611686018427387904 : UInt64) FP.dconst1 (4617315517961601024 : UInt64)) = (0 : Int32)))) hZ (w_36 hw) (w_2 hw) (by decide) (by decide)) q81a q81c (g := (mkF m 98 #[.val (.int p1), .val (.int p2), .val (.int p3), .val (.int p4), .val (.int p5), .val (.int p6), .val (.int nn), .val (.ref b15), .val (.int 1), .unset, .unset, .unset] [(.double (4611686018427387904 : UInt64)), (.double FP.dconst1), (.int 1), (.ref b15)])) rfl (by rw [hml]; rfl) (Steps.refl _) (argsL := [(.int 1), (.double FP.dconst1), (.double (4611686018427387904 : UInt64))]) (rest := []) (lenOf pd_3 rfl) rfl (by show 2 * 0 + _ ≤ _; exact Nat.le_of_eq rfl) (hb hby at_98) (fun _ _ => ⟨rfl, e37, (by decide : 5 + 0 ≤ _), (by decide : 17 + 0 ≤ _)⟩)
    dsimp only [Pt.U, Pt.locs, Pt.cells, Pt.slots] at X81 l81 y81 z81 st81 hQ81
    subst l81 y81 z81
    obtain ⟨rfl, Nq81, Kq81, nF81_b15_nodes, nF81_b15_seconds, nF81_b15_metres, nF81_b15_position, nF81_b15_size, nA81_tn_16, nA81_ts_16, nA81_tm_16, nA81_tp_16⟩ := hQ81
    replace NF := Fr.app NF Nq81
    clear Nq81
    refine WP.tr st81 ?_
    clear st81
    obtain ⟨h81, e81⟩ : ∃ h, T81.heap = h := ⟨_, rfl⟩
    rw [e81] at Kq81 nF81_b15_nodes nF81_b15_seconds nF81_b15_metres nF81_b15_position nF81_b15_size nA81_tn_16 nA81_ts_16 nA81_tm_16 nA81_tp_16
    replace E_b15 := E_b15.keep Kq81
    clear F_b15_nodes
    clear F_b15_seconds
    clear F_b15_metres
    clear F_b15_position
    clear F_b15_size
    clear V_tn_16
    clear V_ts_16
    clear V_tm_16
    clear V_tp_16
    replace Z0 := Nat.le_trans Z0 Kq81.1
    clear Kq81
    have F_b15_nodes := nF81_b15_nodes
    clear nF81_b15_nodes
    have F_b15_seconds := nF81_b15_seconds
    clear nF81_b15_seconds
    have F_b15_metres := nF81_b15_metres
    clear nF81_b15_metres
    have F_b15_position := nF81_b15_position
    clear nF81_b15_position
    have F_b15_size := nF81_b15_size
    clear nF81_b15_size
    have V_tn_16 := nA81_tn_16
    clear nA81_tn_16
    have V_ts_16 := nA81_ts_16
    clear nA81_ts_16
    have V_tm_16 := nA81_tm_16
    clear nA81_tm_16
    have V_tp_16 := nA81_tp_16
    clear nA81_tp_16
    show WP p.tables e below _ T81 (mkF m 101 #[.val (.int p1), .val (.int p2), .val (.int p3), .val (.int p4), .val (.int p5), .val (.int p6), .val (.int nn), .val (.ref b15), .val (.int 1), .unset, .unset, .unset] [])
    refine WP.st (T' := T81) (f' := (mkF m 108 #[.val (.int p1), .val (.int p2), .val (.int p3), .val (.int p4), .val (.int p5), .val (.int p6), .val (.int nn), .val (.ref b15), .val (.int 1), .unset, .unset, .unset] [(.double (4621256167635550208 : UInt64)), (.double FP.dconst0), (.int 2), (.ref b15)])) (fun t k => ?_) ?_
    · refine XS.aload X81.here hx rfl (hb hby at_101) rfl rfl ?_
      refine XS.iconst X81.here hx rfl (hb hby at_103) ?_
      refine XS.dconst0 X81.here hx rfl (hb hby at_104) rfl ?_
      refine X81.ldc2DoubleC hx hown (mvT hZ (w_53 hw)) (g := (mkF m 105 #[.val (.int p1), .val (.int p2), .val (.int p3), .val (.int p4), .val (.int p5), .val (.int p6), .val (.int nn), .val (.ref b15), .val (.int 1), .unset, .unset, .unset] [(.double FP.dconst0), (.int 2), (.ref b15)])) rfl (hb hby at_105) _ ?_
      exact k
    obtain ⟨cq125, kq125, q125a, q125b, q125c⟩ := isOf hZ e81 E_b15
    obtain ⟨_, _, ⟨T125, L125, k125, n125⟩, -, X125, ⟨Lc125, hQ125, l125, y125, z125⟩, st125⟩ := X81.virtualBack hx (y := (⟨"com/example/tandemcab/tandemcab/NodeQueue", "offer", "(IDD)V"⟩ : MethodName)) (z := (⟨"com/example/tandemcab/tandemcab/NodeQueue", "offer", "(IDD)V"⟩ : MethodName)) hown (mvT hZ (w_32 hw)) (mvT hZ (w_33 hw)) (notFace_of_selects (args := #[]) (mvT hZ (w_35 hw))) (mvT hZ (w_35 hw)) (mvT hZ (w_34 hw)) (by decide) (backOf (W := 0) (rm5t8 l Z a0 hw [] b15 FP.dconst0 (4621256167635550208 : UInt64) tn_16 ts_16 tm_16 tp_16 kn_16 ks_16 km_16 kp_16 (.int 0) jnd2 FP.dconst1 (.double FP.dconst1) js2 (4611686018427387904 : UInt64) (.double (4617315517961601024 : UInt64)) jm2 (.int 2) (.int 1) h81 n0 Z0 E_b15 F_b15_nodes F_b15_seconds F_b15_metres F_b15_position F_b15_size V_tn_16 V_ts_16 V_tm_16 V_tp_16 g_b15 g_tn_16 g_ts_16 g_tm_16 g_tp_16 ne_b15_tn_16 ne_b15_ts_16 ne_b15_tm_16 ne_b15_tp_16 ne_tn_16_ts_16 ne_tn_16_tm_16 ne_tn_16_tp_16 ne_ts_16_tm_16 ne_ts_16_tp_16 ne_tm_16_tp_16 (by decide +kernel : ¬ ((own_before FP.dconst0 (4621256167635550208 : UInt64) FP.dconst1 (4611686018427387904 : UInt64)) = (0 : Int32)))) hZ (w_36 hw) (w_2 hw) (by decide) (by decide)) q125a q125c (g := (mkF m 108 #[.val (.int p1), .val (.int p2), .val (.int p3), .val (.int p4), .val (.int p5), .val (.int p6), .val (.int nn), .val (.ref b15), .val (.int 1), .unset, .unset, .unset] [(.double (4621256167635550208 : UInt64)), (.double FP.dconst0), (.int 2), (.ref b15)])) rfl (by rw [hml]; rfl) (Steps.refl _) (argsL := [(.int 2), (.double FP.dconst0), (.double (4621256167635550208 : UInt64))]) (rest := []) (lenOf pd_3 rfl) rfl (by show 2 * 0 + _ ≤ _; exact Nat.le_of_eq rfl) (hb hby at_108) (fun _ _ => ⟨rfl, e81, (by decide : 5 + 0 ≤ _), (by decide : 17 + 0 ≤ _)⟩)
    dsimp only [Pt.U, Pt.locs, Pt.cells, Pt.slots] at X125 l125 y125 z125 st125 hQ125
    subst l125 y125 z125
    obtain ⟨rfl, Nq125, Kq125, nF125_b15_nodes, nF125_b15_seconds, nF125_b15_metres, nF125_b15_position, nF125_b15_size, nA125_tn_16, nA125_ts_16, nA125_tm_16, nA125_tp_16⟩ := hQ125
    replace NF := Fr.app NF Nq125
    clear Nq125
    refine WP.tr st125 ?_
    clear st125
    obtain ⟨h125, e125⟩ : ∃ h, T125.heap = h := ⟨_, rfl⟩
    rw [e125] at Kq125 nF125_b15_nodes nF125_b15_seconds nF125_b15_metres nF125_b15_position nF125_b15_size nA125_tn_16 nA125_ts_16 nA125_tm_16 nA125_tp_16
    replace E_b15 := E_b15.keep Kq125
    clear F_b15_nodes
    clear F_b15_seconds
    clear F_b15_metres
    clear F_b15_position
    clear F_b15_size
    clear V_tn_16
    clear V_ts_16
    clear V_tm_16
    clear V_tp_16
    replace Z0 := Nat.le_trans Z0 Kq125.1
    clear Kq125
    have F_b15_nodes := nF125_b15_nodes
    clear nF125_b15_nodes
    have F_b15_seconds := nF125_b15_seconds
    clear nF125_b15_seconds
    have F_b15_metres := nF125_b15_metres
    clear nF125_b15_metres
    have F_b15_position := nF125_b15_position
    clear nF125_b15_position
    have F_b15_size := nF125_b15_size
    clear nF125_b15_size
    have V_tn_16 := nA125_tn_16
    clear nA125_tn_16
    have V_ts_16 := nA125_ts_16
    clear nA125_ts_16
    have V_tm_16 := nA125_tm_16
    clear nA125_tm_16
    have V_tp_16 := nA125_tp_16
    clear nA125_tp_16
    show WP p.tables e below _ T125 (mkF m 111 #[.val (.int p1), .val (.int p2), .val (.int p3), .val (.int p4), .val (.int p5), .val (.int p6), .val (.int nn), .val (.ref b15), .val (.int 1), .unset, .unset, .unset] [])
    refine WP.st (T' := T125) (f' := (mkF m 113 #[.val (.int p1), .val (.int p2), .val (.int p3), .val (.int p4), .val (.int p5), .val (.int p6), .val (.int nn), .val (.ref b15), .val (.int 1), .unset, .unset, .unset] [(.ref b15)])) (fun t k => ?_) ?_
    · refine XS.aload X125.here hx rfl (hb hby at_111) rfl rfl ?_
      exact k
    obtain ⟨cq152, kq152, q152a, q152b, q152c⟩ := isOf hZ e125 E_b15
    obtain ⟨_, _, ⟨T152, L152, k152, n152⟩, -, X152, ⟨Lc152, hQ152, l152, y152, z152⟩, st152⟩ := X125.virtualBack hx (y := (⟨"com/example/tandemcab/tandemcab/NodeQueue", "poll", "()I"⟩ : MethodName)) (z := (⟨"com/example/tandemcab/tandemcab/NodeQueue", "poll", "()I"⟩ : MethodName)) hown (mvT hZ (w_54 hw)) (mvT hZ (w_55 hw)) (notFace_of_selects (args := #[]) (mvT hZ (w_57 hw))) (mvT hZ (w_57 hw)) (mvT hZ (w_56 hw)) (by decide) (backOf (W := 0) (rm10t13 l Z a0 hw [] b15 tn_16 ts_16 tm_16 tp_16 kn_16 ks_16 km_16 kp_16 (.double FP.dconst0) FP.dconst1 FP.dconst1 (.double (4621256167635550208 : UInt64)) (4617315517961601024 : UInt64) (4611686018427387904 : UInt64) (.int 2) (.int 3) (.int 1) h125 n0 Z0 E_b15 F_b15_nodes F_b15_seconds F_b15_metres F_b15_position F_b15_size V_tn_16 V_ts_16 V_tm_16 V_tp_16 g_b15 g_tn_16 g_ts_16 g_tm_16 g_tp_16 ne_b15_tn_16 ne_b15_ts_16 ne_b15_tm_16 ne_b15_tp_16 ne_tn_16_ts_16 ne_tn_16_tm_16 ne_tn_16_tp_16 ne_ts_16_tm_16 ne_ts_16_tp_16 ne_tm_16_tp_16 (by decide +kernel : (own_before FP.dconst1 (4617315517961601024 : UInt64) FP.dconst1 (4611686018427387904 : UInt64)) = (0 : Int32))) hZ (w_58 hw) (w_2 hw) (by decide) (by decide)) q152a q152c (g := (mkF m 113 #[.val (.int p1), .val (.int p2), .val (.int p3), .val (.int p4), .val (.int p5), .val (.int p6), .val (.int nn), .val (.ref b15), .val (.int 1), .unset, .unset, .unset] [(.ref b15)])) rfl (by rw [hml]; rfl) (Steps.refl _) (argsL := []) (rest := []) (lenOf pd_6 rfl) rfl (by show 2 * 0 + _ ≤ _; exact Nat.le_of_eq rfl) (hb hby at_113) (fun _ _ => ⟨rfl, e125, (by decide : 5 + 0 ≤ _), (by decide : 17 + 0 ≤ _)⟩)
    dsimp only [Pt.U, Pt.locs, Pt.cells, Pt.slots] at X152 l152 y152 z152 st152 hQ152
    subst l152 y152 z152
    obtain ⟨rfl, Nq152, Kq152, nF152_b15_nodes, nF152_b15_seconds, nF152_b15_metres, nF152_b15_position, nF152_b15_size, nA152_tn_16, nA152_ts_16, nA152_tm_16, nA152_tp_16⟩ := hQ152
    replace NF := Fr.app NF Nq152
    clear Nq152
    refine WP.tr st152 ?_
    clear st152
    obtain ⟨h152, e152⟩ : ∃ h, T152.heap = h := ⟨_, rfl⟩
    rw [e152] at Kq152 nF152_b15_nodes nF152_b15_seconds nF152_b15_metres nF152_b15_position nF152_b15_size nA152_tn_16 nA152_ts_16 nA152_tm_16 nA152_tp_16
    replace E_b15 := E_b15.keep Kq152
    clear F_b15_nodes
    clear F_b15_seconds
    clear F_b15_metres
    clear F_b15_position
    clear F_b15_size
    clear V_tn_16
    clear V_ts_16
    clear V_tm_16
    clear V_tp_16
    replace Z0 := Nat.le_trans Z0 Kq152.1
    clear Kq152
    have F_b15_nodes := nF152_b15_nodes
    clear nF152_b15_nodes
    have F_b15_seconds := nF152_b15_seconds
    clear nF152_b15_seconds
    have F_b15_metres := nF152_b15_metres
    clear nF152_b15_metres
    have F_b15_position := nF152_b15_position
    clear nF152_b15_position
    have F_b15_size := nF152_b15_size
    clear nF152_b15_size
    have V_tn_16 := nA152_tn_16
    clear nA152_tn_16
    have V_ts_16 := nA152_ts_16
    clear nA152_ts_16
    have V_tm_16 := nA152_tm_16
    clear nA152_tm_16
    have V_tp_16 := nA152_tp_16
    clear nA152_tp_16
    show WP p.tables e below _ T152 (mkF m 116 #[.val (.int p1), .val (.int p2), .val (.int p3), .val (.int p4), .val (.int p5), .val (.int p6), .val (.int nn), .val (.ref b15), .val (.int 1), .unset, .unset, .unset] [(.int 2)])
    refine WP.st (T' := T152) (f' := (mkF m 120 #[.val (.int p1), .val (.int p2), .val (.int p3), .val (.int p4), .val (.int p5), .val (.int p6), .val (.int nn), .val (.ref b15), .val (.int 1), .val (.int 2), .unset, .unset] [(.ref b15)])) (fun t k => ?_) ?_
    · refine XS.istore X152.here hx rfl (hb hby at_116) rfl (l' := #[.val (.int p1), .val (.int p2), .val (.int p3), .val (.int p4), .val (.int p5), .val (.int p6), .val (.int nn), .val (.ref b15), .val (.int 1), .val (.int 2), .unset, .unset]) rfl ?_
      refine XS.aload X152.here hx rfl (hb hby at_118) rfl rfl ?_
      exact k
    obtain ⟨cq173, kq173, q173a, q173b, q173c⟩ := isOf hZ e152 E_b15
    obtain ⟨_, _, ⟨T173, L173, k173, n173⟩, -, X173, ⟨Lc173, hQ173, l173, y173, z173⟩, st173⟩ := X152.virtualBack hx (y := (⟨"com/example/tandemcab/tandemcab/NodeQueue", "poll", "()I"⟩ : MethodName)) (z := (⟨"com/example/tandemcab/tandemcab/NodeQueue", "poll", "()I"⟩ : MethodName)) hown (mvT hZ (w_54 hw)) (mvT hZ (w_55 hw)) (notFace_of_selects (args := #[]) (mvT hZ (w_57 hw))) (mvT hZ (w_57 hw)) (mvT hZ (w_56 hw)) (by decide) (backOf (W := 0) (rm10t15 l Z a0 hw [] b15 tn_16 ts_16 tm_16 tp_16 kn_16 ks_16 km_16 kp_16 (.int 1) (.double FP.dconst1) FP.dconst1 (.double FP.dconst1) (.double (4611686018427387904 : UInt64)) (4617315517961601024 : UInt64) (.double (4611686018427387904 : UInt64)) (.int 2) (.int 1) (.int 0) h152 n0 Z0 E_b15 F_b15_nodes F_b15_seconds F_b15_metres F_b15_position F_b15_size V_tn_16 V_ts_16 V_tm_16 V_tp_16 g_b15 g_tn_16 g_ts_16 g_tm_16 g_tp_16 ne_b15_tn_16 ne_b15_ts_16 ne_b15_tm_16 ne_b15_tp_16 ne_tn_16_ts_16 ne_tn_16_tm_16 ne_tn_16_tp_16 ne_ts_16_tm_16 ne_ts_16_tp_16 ne_tm_16_tp_16) hZ (w_58 hw) (w_2 hw) (by decide) (by decide)) q173a q173c (g := (mkF m 120 #[.val (.int p1), .val (.int p2), .val (.int p3), .val (.int p4), .val (.int p5), .val (.int p6), .val (.int nn), .val (.ref b15), .val (.int 1), .val (.int 2), .unset, .unset] [(.ref b15)])) rfl (by rw [hml]; rfl) (Steps.refl _) (argsL := []) (rest := []) (lenOf pd_6 rfl) rfl (by show 2 * 0 + _ ≤ _; exact Nat.le_of_eq rfl) (hb hby at_120) (fun _ _ => ⟨rfl, e152, (by decide : 5 + 0 ≤ _), (by decide : 17 + 0 ≤ _)⟩)
    dsimp only [Pt.U, Pt.locs, Pt.cells, Pt.slots] at X173 l173 y173 z173 st173 hQ173
    subst l173 y173 z173
    obtain ⟨rfl, Nq173, Kq173, nF173_b15_nodes, nF173_b15_seconds, nF173_b15_metres, nF173_b15_position, nF173_b15_size, nA173_tn_16, nA173_ts_16, nA173_tm_16, nA173_tp_16⟩ := hQ173
    replace NF := Fr.app NF Nq173
    clear Nq173
    refine WP.tr st173 ?_
    clear st173
    obtain ⟨h173, e173⟩ : ∃ h, T173.heap = h := ⟨_, rfl⟩
    rw [e173] at Kq173 nF173_b15_nodes nF173_b15_seconds nF173_b15_metres nF173_b15_position nF173_b15_size nA173_tn_16 nA173_ts_16 nA173_tm_16 nA173_tp_16
    replace E_b15 := E_b15.keep Kq173
    clear F_b15_nodes
    clear F_b15_seconds
    clear F_b15_metres
    clear F_b15_position
    clear F_b15_size
    clear V_tn_16
    clear V_ts_16
    clear V_tm_16
    clear V_tp_16
    replace Z0 := Nat.le_trans Z0 Kq173.1
    clear Kq173
    have F_b15_nodes := nF173_b15_nodes
    clear nF173_b15_nodes
    have F_b15_seconds := nF173_b15_seconds
    clear nF173_b15_seconds
    have F_b15_metres := nF173_b15_metres
    clear nF173_b15_metres
    have F_b15_position := nF173_b15_position
    clear nF173_b15_position
    have F_b15_size := nF173_b15_size
    clear nF173_b15_size
    have V_tn_16 := nA173_tn_16
    clear nA173_tn_16
    have V_ts_16 := nA173_ts_16
    clear nA173_ts_16
    have V_tm_16 := nA173_tm_16
    clear nA173_tm_16
    have V_tp_16 := nA173_tp_16
    clear nA173_tp_16
    show WP p.tables e below _ T173 (mkF m 123 #[.val (.int p1), .val (.int p2), .val (.int p3), .val (.int p4), .val (.int p5), .val (.int p6), .val (.int nn), .val (.ref b15), .val (.int 1), .val (.int 2), .unset, .unset] [(.int 1)])
    refine WP.st (T' := T173) (f' := (mkF m 127 #[.val (.int p1), .val (.int p2), .val (.int p3), .val (.int p4), .val (.int p5), .val (.int p6), .val (.int nn), .val (.ref b15), .val (.int 1), .val (.int 2), .val (.int 1), .unset] [(.ref b15)])) (fun t k => ?_) ?_
    · refine XS.istore X173.here hx rfl (hb hby at_123) rfl (l' := #[.val (.int p1), .val (.int p2), .val (.int p3), .val (.int p4), .val (.int p5), .val (.int p6), .val (.int nn), .val (.ref b15), .val (.int 1), .val (.int 2), .val (.int 1), .unset]) rfl ?_
      refine XS.aload X173.here hx rfl (hb hby at_125) rfl rfl ?_
      exact k
    obtain ⟨cq182, kq182, q182a, q182b, q182c⟩ := isOf hZ e173 E_b15
    obtain ⟨_, _, ⟨T182, L182, k182, n182⟩, -, X182, ⟨Lc182, hQ182, l182, y182, z182⟩, st182⟩ := X173.virtualBack hx (y := (⟨"com/example/tandemcab/tandemcab/NodeQueue", "poll", "()I"⟩ : MethodName)) (z := (⟨"com/example/tandemcab/tandemcab/NodeQueue", "poll", "()I"⟩ : MethodName)) hown (mvT hZ (w_54 hw)) (mvT hZ (w_55 hw)) (notFace_of_selects (args := #[]) (mvT hZ (w_57 hw))) (mvT hZ (w_57 hw)) (mvT hZ (w_56 hw)) (by decide) (backOf (W := 0) (rm10t17 l Z a0 hw [] b15 tn_16 ts_16 tm_16 tp_16 kn_16 ks_16 km_16 kp_16 (.int 0) (.int 1) (.double FP.dconst1) (.double FP.dconst1) (.double FP.dconst1) (.double (4617315517961601024 : UInt64)) (.double (4617315517961601024 : UInt64)) (.double (4611686018427387904 : UInt64)) (.int 1) (.int 0) (.int 0) h173 n0 Z0 E_b15 F_b15_nodes F_b15_seconds F_b15_metres F_b15_position F_b15_size V_tn_16 V_ts_16 V_tm_16 V_tp_16 g_b15 g_tn_16 g_ts_16 g_tm_16 g_tp_16 ne_b15_tn_16 ne_b15_ts_16 ne_b15_tm_16 ne_b15_tp_16 ne_tn_16_ts_16 ne_tn_16_tm_16 ne_tn_16_tp_16 ne_ts_16_tm_16 ne_ts_16_tp_16 ne_tm_16_tp_16) hZ (w_58 hw) (w_2 hw) (by decide) (by decide)) q182a q182c (g := (mkF m 127 #[.val (.int p1), .val (.int p2), .val (.int p3), .val (.int p4), .val (.int p5), .val (.int p6), .val (.int nn), .val (.ref b15), .val (.int 1), .val (.int 2), .val (.int 1), .unset] [(.ref b15)])) rfl (by rw [hml]; rfl) (Steps.refl _) (argsL := []) (rest := []) (lenOf pd_6 rfl) rfl (by show 2 * 0 + _ ≤ _; exact Nat.le_of_eq rfl) (hb hby at_127) (fun _ _ => ⟨rfl, e173, (by decide : 5 + 0 ≤ _), (by decide : 17 + 0 ≤ _)⟩)
    dsimp only [Pt.U, Pt.locs, Pt.cells, Pt.slots] at X182 l182 y182 z182 st182 hQ182
    subst l182 y182 z182
    obtain ⟨rfl, Nq182, Kq182, nF182_b15_nodes, nF182_b15_seconds, nF182_b15_metres, nF182_b15_position, nF182_b15_size, nA182_tn_16, nA182_ts_16, nA182_tm_16, nA182_tp_16⟩ := hQ182
    replace NF := Fr.app NF Nq182
    clear Nq182
    refine WP.tr st182 ?_
    clear st182
    obtain ⟨h182, e182⟩ : ∃ h, T182.heap = h := ⟨_, rfl⟩
    rw [e182] at Kq182 nF182_b15_nodes nF182_b15_seconds nF182_b15_metres nF182_b15_position nF182_b15_size nA182_tn_16 nA182_ts_16 nA182_tm_16 nA182_tp_16
    replace E_b15 := E_b15.keep Kq182
    clear F_b15_nodes
    clear F_b15_seconds
    clear F_b15_metres
    clear F_b15_position
    clear F_b15_size
    clear V_tn_16
    clear V_ts_16
    clear V_tm_16
    clear V_tp_16
    replace Z0 := Nat.le_trans Z0 Kq182.1
    clear Kq182
    have F_b15_nodes := nF182_b15_nodes
    clear nF182_b15_nodes
    have F_b15_seconds := nF182_b15_seconds
    clear nF182_b15_seconds
    have F_b15_metres := nF182_b15_metres
    clear nF182_b15_metres
    have F_b15_position := nF182_b15_position
    clear nF182_b15_position
    have F_b15_size := nF182_b15_size
    clear nF182_b15_size
    have V_tn_16 := nA182_tn_16
    clear nA182_tn_16
    have V_ts_16 := nA182_ts_16
    clear nA182_ts_16
    have V_tm_16 := nA182_tm_16
    clear nA182_tm_16
    have V_tp_16 := nA182_tp_16
    clear nA182_tp_16
    show WP p.tables e below _ T182 (mkF m 130 #[.val (.int p1), .val (.int p2), .val (.int p3), .val (.int p4), .val (.int p5), .val (.int p6), .val (.int nn), .val (.ref b15), .val (.int 1), .val (.int 2), .val (.int 1), .unset] [(.int 0)])
    refine WP.st (T' := T182) (f' := (mkF m 156 #[.val (.int p1), .val (.int p2), .val (.int p3), .val (.int p4), .val (.int p5), .val (.int p6), .val (.int nn), .val (.ref b15), .val (.int 1), .val (.int 2), .val (.int 1), .val (.int 0)] [(.ref b15)])) (fun t k => ?_) ?_
    · refine XS.istore X182.here hx rfl (hb hby at_130) rfl (l' := #[.val (.int p1), .val (.int p2), .val (.int p3), .val (.int p4), .val (.int p5), .val (.int p6), .val (.int nn), .val (.ref b15), .val (.int 1), .val (.int 2), .val (.int 1), .val (.int 0)]) rfl ?_
      refine XS.iload X182.here hx rfl (hb hby at_132) rfl ?_
      refine XS.ifNo X182.here hx rfl (hb hby at_134) rfl ((if0 _ _).trans (feq (by decide : ¬ ((1 : Int32) = (0 : Int32)))).1) ?_
      refine XS.iload X182.here hx rfl (hb hby at_137) rfl ?_
      refine XS.iconst X182.here hx rfl (hb hby at_139) ?_
      refine XS.icmpNo X182.here hx rfl (hb hby at_140) rfl (teq (by decide : (2 : Int32) = (2 : Int32))).2 ?_
      refine XS.iload X182.here hx rfl (hb hby at_143) rfl ?_
      refine XS.iconst X182.here hx rfl (hb hby at_145) ?_
      show Steps p.tables e below (T182.setTop (mkF m 146 #[.val (.int p1), .val (.int p2), .val (.int p3), .val (.int p4), .val (.int p5), .val (.int p6), .val (.int nn), .val (.ref b15), .val (.int 1), .val (.int 2), .val (.int 1), .val (.int 0)] [(.int 1), (.int 1)])) t
      refine XS.icmpNo X182.here hx rfl (hb hby at_146) rfl (teq (by decide : (1 : Int32) = (1 : Int32))).2 ?_
      refine XS.iload X182.here hx rfl (hb hby at_149) rfl ?_
      refine XS.ifNo X182.here hx rfl (hb hby at_151) rfl ((if0 _ _).trans (teq (by decide : (0 : Int32) = (0 : Int32))).2) ?_
      refine XS.aload X182.here hx rfl (hb hby at_154) rfl rfl ?_
      exact k
    obtain ⟨cq183, kq183, q183a, q183b, q183c⟩ := isOf hZ e182 E_b15
    obtain ⟨_, _, ⟨T183, L183, k183, n183⟩, -, X183, ⟨Lc183, hQ183, l183, y183, z183⟩, st183⟩ := X182.virtualBack hx (y := (⟨"com/example/tandemcab/tandemcab/NodeQueue", "isEmpty", "()Z"⟩ : MethodName)) (z := (⟨"com/example/tandemcab/tandemcab/NodeQueue", "isEmpty", "()Z"⟩ : MethodName)) hown (mvT hZ (w_26 hw)) (mvT hZ (w_27 hw)) (notFace_of_selects (args := #[]) (mvT hZ (w_29 hw))) (mvT hZ (w_29 hw)) (mvT hZ (w_28 hw)) (by decide) (backOf (W := 0) (rm4 l Z a0 hw [] b15 (0 : Int32) h182 n0 Z0 F_b15_size) hZ (w_30 hw) (w_2 hw) (by decide) (by decide)) q183a q183c (g := (mkF m 156 #[.val (.int p1), .val (.int p2), .val (.int p3), .val (.int p4), .val (.int p5), .val (.int p6), .val (.int nn), .val (.ref b15), .val (.int 1), .val (.int 2), .val (.int 1), .val (.int 0)] [(.ref b15)])) rfl (by rw [hml]; rfl) (Steps.refl _) (argsL := []) (rest := []) (lenOf pd_1 rfl) rfl (by show 2 * 0 + _ ≤ _; exact Nat.le_of_eq rfl) (hb hby at_156) (fun _ _ => ⟨rfl, e182, (by decide : 5 + 0 ≤ _), (by decide : 17 + 0 ≤ _)⟩)
    dsimp only [Pt.U, Pt.locs, Pt.cells, Pt.slots] at X183 l183 y183 z183 st183 hQ183
    subst l183 y183 z183
    obtain ⟨rfl, Nq183, Kq183⟩ := hQ183
    replace NF := Fr.app NF Nq183
    clear Nq183
    refine WP.tr st183 ?_
    clear st183
    replace Kq183 := Kq183.trans (rfl : h182 = h182)
    show WP p.tables e below _ T183 (mkF m 159 #[.val (.int p1), .val (.int p2), .val (.int p3), .val (.int p4), .val (.int p5), .val (.int p6), .val (.int nn), .val (.ref b15), .val (.int 1), .val (.int 2), .val (.int 1), .val (.int 0)] [(.int (if (0 : Int32) = 0 then (1 : Int32) else 0))])
    rw [show (if (0 : Int32) = 0 then (1 : Int32) else 0) = (1 : Int32) from by decide]
    show WP p.tables e below _ T183 (mkF m 159 #[.val (.int p1), .val (.int p2), .val (.int p3), .val (.int p4), .val (.int p5), .val (.int p6), .val (.int nn), .val (.ref b15), .val (.int 1), .val (.int 2), .val (.int 1), .val (.int 0)] [(.int 1)])
    refine WP.st (T' := T183) (f' := (mkF m 167 #[.val (.int p1), .val (.int p2), .val (.int p3), .val (.int p4), .val (.int p5), .val (.int p6), .val (.int nn), .val (.ref b15), .val (.int 1), .val (.int 2), .val (.int 1), .val (.int 0)] [(.int 1)])) (fun t k => ?_) ?_
    · refine XS.ifNo X183.here hx rfl (hb hby at_159) rfl ((if0 _ _).trans (feq (by decide : ¬ ((1 : Int32) = (0 : Int32)))).1) ?_
      refine XS.iconst X183.here hx rfl (hb hby at_162) ?_
      refine XS.goto X183.here hx rfl (pc0 := 163) (pc' := 167) rfl (hb hby at_163) (by decide) (by decide) ?_
      exact k
    subst hG
    obtain ⟨fs, hr, hrun, hended, hW, hsame⟩ := X183.leave (v := some (.int 1)) (fun h => by rw [Bd.returns] at h; cases h)
    refine WP.fin ⟨_, _, ?_, hrun, hended, _, _, rfl, ?_, ⟨_, rfl⟩, hW, hsame.mono (by decide) (by decide)⟩
    · exact retN X183 hx (t := .boolean) Bd.returns (by simp) (hb hby at_167) hr
    · show Q0 Z p1 p2 p3 p4 p5 p6 h0 n0 _ T183.heap _
      rw [Kq183]
      exact ⟨rfl, NF⟩
  have hn := own_and3 p1
  generalize (p1 &&& (3 : Int32)) = nq at hn ⊢
  rcases hn with rfl | rfl | rfl | rfl
  · skip
    show WP p.tables e below _ T16 (mkF m 15 #[.val (.int p1), .val (.int p2), .val (.int p3), .val (.int p4), .val (.int p5), .val (.int p6), .val (.int 0), .val (.ref b15), .unset, .unset, .unset, .unset] [])
    refine WP.st (T' := T16) (f' := (mkF m 71 #[.val (.int p1), .val (.int p2), .val (.int p3), .val (.int p4), .val (.int p5), .val (.int p6), .val (.int 0), .val (.ref b15), .unset, .unset, .unset, .unset] [(.ref b15)])) (fun t k => ?_) ?_
    · refine XS.iload X16.here hx rfl (hb hby at_15) rfl ?_
      refine XS.iconst X16.here hx rfl (hb hby at_17) ?_
      refine XS.icmpYes X16.here hx rfl (pc0 := 18) (pc' := 32) rfl (hb hby at_18) rfl (tlt (by decide : (0 : Int32) < (1 : Int32))).1 (by decide) (by decide) ?_
      refine XS.iload X16.here hx rfl (hb hby at_32) rfl ?_
      refine XS.iconst X16.here hx rfl (hb hby at_34) ?_
      refine XS.icmpYes X16.here hx rfl (pc0 := 35) (pc' := 49) rfl (hb hby at_35) rfl (tlt (by decide : (0 : Int32) < (2 : Int32))).1 (by decide) (by decide) ?_
      refine XS.iload X16.here hx rfl (hb hby at_49) rfl ?_
      refine XS.iconst X16.here hx rfl (hb hby at_51) ?_
      show Steps p.tables e below (T16.setTop (mkF m 52 #[.val (.int p1), .val (.int p2), .val (.int p3), .val (.int p4), .val (.int p5), .val (.int p6), .val (.int 0), .val (.ref b15), .unset, .unset, .unset, .unset] [(.int 3), (.int 0)])) t
      refine XS.icmpYes X16.here hx rfl (pc0 := 52) (pc' := 69) rfl (hb hby at_52) rfl (tlt (by decide : (0 : Int32) < (3 : Int32))).1 (by decide) (by decide) ?_
      refine XS.aload X16.here hx rfl (hb hby at_69) rfl rfl ?_
      exact k
    obtain ⟨cq186, kq186, q186a, q186b, q186c⟩ := isOf hZ e16 E_b15
    obtain ⟨_, _, ⟨T186, L186, k186, n186⟩, -, X186, ⟨Lc186, hQ186, l186, y186, z186⟩, st186⟩ := X16.virtualBack hx (y := (⟨"com/example/tandemcab/tandemcab/NodeQueue", "clear", "()V"⟩ : MethodName)) (z := (⟨"com/example/tandemcab/tandemcab/NodeQueue", "clear", "()V"⟩ : MethodName)) hown (mvT hZ (w_19 hw)) (mvT hZ (w_20 hw)) (notFace_of_selects (args := #[]) (mvT hZ (w_22 hw))) (mvT hZ (w_22 hw)) (mvT hZ (w_21 hw)) (by decide) (backOf (W := 0) (rm3t18 l Z a0 hw [] b15 tn_16 ts_16 tm_16 tp_16 kn_16 ks_16 km_16 kp_16 (.int 0) (.int 0) (.int 0) (.double 0) (.double 0) (.double 0) (.double 0) (.double 0) (.double 0) (.int 0) (.int 0) (.int 0) h16 n0 Z0 E_b15 F_b15_nodes F_b15_seconds F_b15_metres F_b15_position F_b15_size V_tn_16 V_ts_16 V_tm_16 V_tp_16 g_b15 g_tn_16 g_ts_16 g_tm_16 g_tp_16 ne_b15_tn_16 ne_b15_ts_16 ne_b15_tm_16 ne_b15_tp_16 ne_tn_16_ts_16 ne_tn_16_tm_16 ne_tn_16_tp_16 ne_ts_16_tm_16 ne_ts_16_tp_16 ne_tm_16_tp_16) hZ (w_23 hw) (w_2 hw) (by decide) (by decide)) q186a q186c (g := (mkF m 71 #[.val (.int p1), .val (.int p2), .val (.int p3), .val (.int p4), .val (.int p5), .val (.int p6), .val (.int 0), .val (.ref b15), .unset, .unset, .unset, .unset] [(.ref b15)])) rfl (by rw [hml]; rfl) (Steps.refl _) (argsL := []) (rest := []) (lenOf pd_7 rfl) rfl (by show 2 * 0 + _ ≤ _; exact Nat.le_of_eq rfl) (hb hby at_71) (fun _ _ => ⟨rfl, e16, (by decide : 5 + 0 ≤ _), (by decide : 17 + 0 ≤ _)⟩)
    dsimp only [Pt.U, Pt.locs, Pt.cells, Pt.slots] at X186 l186 y186 z186 st186 hQ186
    subst l186 y186 z186
    obtain ⟨rfl, Nq186, Kq186, nF186_b15_nodes, nF186_b15_seconds, nF186_b15_metres, nF186_b15_position, nF186_b15_size, nA186_tn_16, nA186_ts_16, nA186_tm_16, nA186_tp_16⟩ := hQ186
    replace NF := Fr.app NF Nq186
    clear Nq186
    refine WP.tr st186 ?_
    clear st186
    obtain ⟨h186, e186⟩ : ∃ h, T186.heap = h := ⟨_, rfl⟩
    rw [e186] at Kq186 nF186_b15_nodes nF186_b15_seconds nF186_b15_metres nF186_b15_position nF186_b15_size nA186_tn_16 nA186_ts_16 nA186_tm_16 nA186_tp_16
    replace E_b15 := E_b15.keep Kq186
    clear F_b15_nodes
    clear F_b15_seconds
    clear F_b15_metres
    clear F_b15_position
    clear F_b15_size
    clear V_tn_16
    clear V_ts_16
    clear V_tm_16
    clear V_tp_16
    replace Z0 := Nat.le_trans Z0 Kq186.1
    clear Kq186
    have F_b15_nodes := nF186_b15_nodes
    clear nF186_b15_nodes
    have F_b15_seconds := nF186_b15_seconds
    clear nF186_b15_seconds
    have F_b15_metres := nF186_b15_metres
    clear nF186_b15_metres
    have F_b15_position := nF186_b15_position
    clear nF186_b15_position
    have F_b15_size := nF186_b15_size
    clear nF186_b15_size
    have V_tn_16 := nA186_tn_16
    clear nA186_tn_16
    have V_ts_16 := nA186_ts_16
    clear nA186_ts_16
    have V_tm_16 := nA186_tm_16
    clear nA186_tm_16
    have V_tp_16 := nA186_tp_16
    clear nA186_tp_16
    show WP p.tables e below _ T186 (mkF m 74 #[.val (.int p1), .val (.int p2), .val (.int p3), .val (.int p4), .val (.int p5), .val (.int p6), .val (.int 0), .val (.ref b15), .unset, .unset, .unset, .unset] [])
    exact J17 _ _ _ (0 : Int32) (.int 0) (.int 0) (.int 0) (.double 0) (.double 0) (.double 0) (.double 0) (.double 0) (.double 0) (ownWider X186 (by decide) (by decide)) e186 NF Z0 E_b15 F_b15_nodes F_b15_seconds F_b15_metres F_b15_position F_b15_size V_tn_16 V_ts_16 V_tm_16 V_tp_16 
  · skip
    show WP p.tables e below _ T16 (mkF m 15 #[.val (.int p1), .val (.int p2), .val (.int p3), .val (.int p4), .val (.int p5), .val (.int p6), .val (.int 1), .val (.ref b15), .unset, .unset, .unset, .unset] [])
    refine WP.st (T' := T16) (f' := (mkF m 29 #[.val (.int p1), .val (.int p2), .val (.int p3), .val (.int p4), .val (.int p5), .val (.int p6), .val (.int 1), .val (.ref b15), .unset, .unset, .unset, .unset] [(.double (FP.i2d p5)), (.double (FP.i2d p2)), (.int 2), (.ref b15)])) (fun t k => ?_) ?_
    · refine XS.iload X16.here hx rfl (hb hby at_15) rfl ?_
      refine XS.iconst X16.here hx rfl (hb hby at_17) ?_
      refine XS.icmpNo X16.here hx rfl (hb hby at_18) rfl (flt (by decide : ¬ ((1 : Int32) < (1 : Int32)))).1 ?_
      refine XS.aload X16.here hx rfl (hb hby at_21) rfl rfl ?_
      refine XS.iconst X16.here hx rfl (hb hby at_23) ?_
      refine XS.iloadN X16.here hx rfl (hb hby at_24) rfl ?_
      refine XS.i2dS X16.here hx rfl (hb hby at_25) rfl rfl ?_
      refine XS.iload X16.here hx rfl (hb hby at_26) rfl ?_
      show Steps p.tables e below (T16.setTop (mkF m 28 #[.val (.int p1), .val (.int p2), .val (.int p3), .val (.int p4), .val (.int p5), .val (.int p6), .val (.int 1), .val (.ref b15), .unset, .unset, .unset, .unset] [(.int p5), (.double (FP.i2d p2)), (.int 2), (.ref b15)])) t
      refine XS.i2dS X16.here hx rfl (hb hby at_28) rfl rfl ?_
      exact k
    obtain ⟨cq193, kq193, q193a, q193b, q193c⟩ := isOf hZ e16 E_b15
    obtain ⟨_, _, ⟨T193, L193, k193, n193⟩, -, X193, ⟨Lc193, hQ193, l193, y193, z193⟩, st193⟩ := X16.virtualBack hx (y := (⟨"com/example/tandemcab/tandemcab/NodeQueue", "offer", "(IDD)V"⟩ : MethodName)) (z := (⟨"com/example/tandemcab/tandemcab/NodeQueue", "offer", "(IDD)V"⟩ : MethodName)) hown (mvT hZ (w_32 hw)) (mvT hZ (w_33 hw)) (notFace_of_selects (args := #[]) (mvT hZ (w_35 hw))) (mvT hZ (w_35 hw)) (mvT hZ (w_34 hw)) (by decide) (backOf (W := 0) (rm5t19 l Z a0 hw [] b15 (FP.i2d p2) (FP.i2d p5) tn_16 ts_16 tm_16 tp_16 kn_16 ks_16 km_16 kp_16 (.int 0) (.int 0) (.int 0) (.double 0) (.double 0) (.double 0) (.double 0) (.double 0) (.double 0) (.int 0) (.int 0) h16 n0 Z0 E_b15 F_b15_nodes F_b15_seconds F_b15_metres F_b15_position F_b15_size V_tn_16 V_ts_16 V_tm_16 V_tp_16 g_b15 g_tn_16 g_ts_16 g_tm_16 g_tp_16 ne_b15_tn_16 ne_b15_ts_16 ne_b15_tm_16 ne_b15_tp_16 ne_tn_16_ts_16 ne_tn_16_tm_16 ne_tn_16_tp_16 ne_ts_16_tm_16 ne_ts_16_tp_16 ne_tm_16_tp_16) hZ (w_36 hw) (w_2 hw) (by decide) (by decide)) q193a q193c (g := (mkF m 29 #[.val (.int p1), .val (.int p2), .val (.int p3), .val (.int p4), .val (.int p5), .val (.int p6), .val (.int 1), .val (.ref b15), .unset, .unset, .unset, .unset] [(.double (FP.i2d p5)), (.double (FP.i2d p2)), (.int 2), (.ref b15)])) rfl (by rw [hml]; rfl) (Steps.refl _) (argsL := [(.int 2), (.double (FP.i2d p2)), (.double (FP.i2d p5))]) (rest := []) (lenOf pd_3 rfl) rfl (by show 2 * 0 + _ ≤ _; exact Nat.le_of_eq rfl) (hb hby at_29) (fun _ _ => ⟨rfl, e16, (by decide : 5 + 0 ≤ _), (by decide : 17 + 0 ≤ _)⟩)
    dsimp only [Pt.U, Pt.locs, Pt.cells, Pt.slots] at X193 l193 y193 z193 st193 hQ193
    subst l193 y193 z193
    obtain ⟨rfl, Nq193, Kq193, nF193_b15_nodes, nF193_b15_seconds, nF193_b15_metres, nF193_b15_position, nF193_b15_size, nA193_tn_16, nA193_ts_16, nA193_tm_16, nA193_tp_16⟩ := hQ193
    replace NF := Fr.app NF Nq193
    clear Nq193
    refine WP.tr st193 ?_
    clear st193
    obtain ⟨h193, e193⟩ : ∃ h, T193.heap = h := ⟨_, rfl⟩
    rw [e193] at Kq193 nF193_b15_nodes nF193_b15_seconds nF193_b15_metres nF193_b15_position nF193_b15_size nA193_tn_16 nA193_ts_16 nA193_tm_16 nA193_tp_16
    replace E_b15 := E_b15.keep Kq193
    clear F_b15_nodes
    clear F_b15_seconds
    clear F_b15_metres
    clear F_b15_position
    clear F_b15_size
    clear V_tn_16
    clear V_ts_16
    clear V_tm_16
    clear V_tp_16
    replace Z0 := Nat.le_trans Z0 Kq193.1
    clear Kq193
    have F_b15_nodes := nF193_b15_nodes
    clear nF193_b15_nodes
    have F_b15_seconds := nF193_b15_seconds
    clear nF193_b15_seconds
    have F_b15_metres := nF193_b15_metres
    clear nF193_b15_metres
    have F_b15_position := nF193_b15_position
    clear nF193_b15_position
    have F_b15_size := nF193_b15_size
    clear nF193_b15_size
    have V_tn_16 := nA193_tn_16
    clear nA193_tn_16
    have V_ts_16 := nA193_ts_16
    clear nA193_ts_16
    have V_tm_16 := nA193_tm_16
    clear nA193_tm_16
    have V_tp_16 := nA193_tp_16
    clear nA193_tp_16
    show WP p.tables e below _ T193 (mkF m 32 #[.val (.int p1), .val (.int p2), .val (.int p3), .val (.int p4), .val (.int p5), .val (.int p6), .val (.int 1), .val (.ref b15), .unset, .unset, .unset, .unset] [])
    refine WP.st (T' := T193) (f' := (mkF m 71 #[.val (.int p1), .val (.int p2), .val (.int p3), .val (.int p4), .val (.int p5), .val (.int p6), .val (.int 1), .val (.ref b15), .unset, .unset, .unset, .unset] [(.ref b15)])) (fun t k => ?_) ?_
    · refine XS.iload X193.here hx rfl (hb hby at_32) rfl ?_
      refine XS.iconst X193.here hx rfl (hb hby at_34) ?_
      refine XS.icmpYes X193.here hx rfl (pc0 := 35) (pc' := 49) rfl (hb hby at_35) rfl (tlt (by decide : (1 : Int32) < (2 : Int32))).1 (by decide) (by decide) ?_
      refine XS.iload X193.here hx rfl (hb hby at_49) rfl ?_
      refine XS.iconst X193.here hx rfl (hb hby at_51) ?_
      refine XS.icmpYes X193.here hx rfl (pc0 := 52) (pc' := 69) rfl (hb hby at_52) rfl (tlt (by decide : (1 : Int32) < (3 : Int32))).1 (by decide) (by decide) ?_
      refine XS.aload X193.here hx rfl (hb hby at_69) rfl rfl ?_
      exact k
    obtain ⟨cq202, kq202, q202a, q202b, q202c⟩ := isOf hZ e193 E_b15
    obtain ⟨_, _, ⟨T202, L202, k202, n202⟩, -, X202, ⟨Lc202, hQ202, l202, y202, z202⟩, st202⟩ := X193.virtualBack hx (y := (⟨"com/example/tandemcab/tandemcab/NodeQueue", "clear", "()V"⟩ : MethodName)) (z := (⟨"com/example/tandemcab/tandemcab/NodeQueue", "clear", "()V"⟩ : MethodName)) hown (mvT hZ (w_19 hw)) (mvT hZ (w_20 hw)) (notFace_of_selects (args := #[]) (mvT hZ (w_22 hw))) (mvT hZ (w_22 hw)) (mvT hZ (w_21 hw)) (by decide) (backOf (W := 0) (rm3t21 l Z a0 hw [] b15 tn_16 ts_16 tm_16 tp_16 kn_16 ks_16 km_16 kp_16 (.int 0) (.int 0) (.double (FP.i2d p2)) (.double 0) (.double 0) (.double (FP.i2d p5)) (.double 0) (.double 0) (.int 0) (.int 0) (.int 1) h193 n0 Z0 E_b15 F_b15_nodes F_b15_seconds F_b15_metres F_b15_position F_b15_size V_tn_16 V_ts_16 V_tm_16 V_tp_16 g_b15 g_tn_16 g_ts_16 g_tm_16 g_tp_16 ne_b15_tn_16 ne_b15_ts_16 ne_b15_tm_16 ne_b15_tp_16 ne_tn_16_ts_16 ne_tn_16_tm_16 ne_tn_16_tp_16 ne_ts_16_tm_16 ne_ts_16_tp_16 ne_tm_16_tp_16) hZ (w_23 hw) (w_2 hw) (by decide) (by decide)) q202a q202c (g := (mkF m 71 #[.val (.int p1), .val (.int p2), .val (.int p3), .val (.int p4), .val (.int p5), .val (.int p6), .val (.int 1), .val (.ref b15), .unset, .unset, .unset, .unset] [(.ref b15)])) rfl (by rw [hml]; rfl) (Steps.refl _) (argsL := []) (rest := []) (lenOf pd_7 rfl) rfl (by show 2 * 0 + _ ≤ _; exact Nat.le_of_eq rfl) (hb hby at_71) (fun _ _ => ⟨rfl, e193, (by decide : 5 + 0 ≤ _), (by decide : 17 + 0 ≤ _)⟩)
    dsimp only [Pt.U, Pt.locs, Pt.cells, Pt.slots] at X202 l202 y202 z202 st202 hQ202
    subst l202 y202 z202
    obtain ⟨rfl, Nq202, Kq202, nF202_b15_nodes, nF202_b15_seconds, nF202_b15_metres, nF202_b15_position, nF202_b15_size, nA202_tn_16, nA202_ts_16, nA202_tm_16, nA202_tp_16⟩ := hQ202
    replace NF := Fr.app NF Nq202
    clear Nq202
    refine WP.tr st202 ?_
    clear st202
    obtain ⟨h202, e202⟩ : ∃ h, T202.heap = h := ⟨_, rfl⟩
    rw [e202] at Kq202 nF202_b15_nodes nF202_b15_seconds nF202_b15_metres nF202_b15_position nF202_b15_size nA202_tn_16 nA202_ts_16 nA202_tm_16 nA202_tp_16
    replace E_b15 := E_b15.keep Kq202
    clear F_b15_nodes
    clear F_b15_seconds
    clear F_b15_metres
    clear F_b15_position
    clear F_b15_size
    clear V_tn_16
    clear V_ts_16
    clear V_tm_16
    clear V_tp_16
    replace Z0 := Nat.le_trans Z0 Kq202.1
    clear Kq202
    have F_b15_nodes := nF202_b15_nodes
    clear nF202_b15_nodes
    have F_b15_seconds := nF202_b15_seconds
    clear nF202_b15_seconds
    have F_b15_metres := nF202_b15_metres
    clear nF202_b15_metres
    have F_b15_position := nF202_b15_position
    clear nF202_b15_position
    have F_b15_size := nF202_b15_size
    clear nF202_b15_size
    have V_tn_16 := nA202_tn_16
    clear nA202_tn_16
    have V_ts_16 := nA202_ts_16
    clear nA202_ts_16
    have V_tm_16 := nA202_tm_16
    clear nA202_tm_16
    have V_tp_16 := nA202_tp_16
    clear nA202_tp_16
    show WP p.tables e below _ T202 (mkF m 74 #[.val (.int p1), .val (.int p2), .val (.int p3), .val (.int p4), .val (.int p5), .val (.int p6), .val (.int 1), .val (.ref b15), .unset, .unset, .unset, .unset] [])
    exact J17 _ _ _ (1 : Int32) (.int 2) (.int 0) (.int 0) (.double (FP.i2d p2)) (.double 0) (.double 0) (.double (FP.i2d p5)) (.double 0) (.double 0) (ownWider X202 (by decide) (by decide)) e202 NF Z0 E_b15 F_b15_nodes F_b15_seconds F_b15_metres F_b15_position F_b15_size V_tn_16 V_ts_16 V_tm_16 V_tp_16 
  · skip
    show WP p.tables e below _ T16 (mkF m 15 #[.val (.int p1), .val (.int p2), .val (.int p3), .val (.int p4), .val (.int p5), .val (.int p6), .val (.int 2), .val (.ref b15), .unset, .unset, .unset, .unset] [])
    refine WP.st (T' := T16) (f' := (mkF m 29 #[.val (.int p1), .val (.int p2), .val (.int p3), .val (.int p4), .val (.int p5), .val (.int p6), .val (.int 2), .val (.ref b15), .unset, .unset, .unset, .unset] [(.double (FP.i2d p5)), (.double (FP.i2d p2)), (.int 2), (.ref b15)])) (fun t k => ?_) ?_
    · refine XS.iload X16.here hx rfl (hb hby at_15) rfl ?_
      refine XS.iconst X16.here hx rfl (hb hby at_17) ?_
      refine XS.icmpNo X16.here hx rfl (hb hby at_18) rfl (flt (by decide : ¬ ((2 : Int32) < (1 : Int32)))).1 ?_
      refine XS.aload X16.here hx rfl (hb hby at_21) rfl rfl ?_
      refine XS.iconst X16.here hx rfl (hb hby at_23) ?_
      refine XS.iloadN X16.here hx rfl (hb hby at_24) rfl ?_
      refine XS.i2dS X16.here hx rfl (hb hby at_25) rfl rfl ?_
      refine XS.iload X16.here hx rfl (hb hby at_26) rfl ?_
      show Steps p.tables e below (T16.setTop (mkF m 28 #[.val (.int p1), .val (.int p2), .val (.int p3), .val (.int p4), .val (.int p5), .val (.int p6), .val (.int 2), .val (.ref b15), .unset, .unset, .unset, .unset] [(.int p5), (.double (FP.i2d p2)), (.int 2), (.ref b15)])) t
      refine XS.i2dS X16.here hx rfl (hb hby at_28) rfl rfl ?_
      exact k
    obtain ⟨cq203, kq203, q203a, q203b, q203c⟩ := isOf hZ e16 E_b15
    obtain ⟨_, _, ⟨T203, L203, k203, n203⟩, -, X203, ⟨Lc203, hQ203, l203, y203, z203⟩, st203⟩ := X16.virtualBack hx (y := (⟨"com/example/tandemcab/tandemcab/NodeQueue", "offer", "(IDD)V"⟩ : MethodName)) (z := (⟨"com/example/tandemcab/tandemcab/NodeQueue", "offer", "(IDD)V"⟩ : MethodName)) hown (mvT hZ (w_32 hw)) (mvT hZ (w_33 hw)) (notFace_of_selects (args := #[]) (mvT hZ (w_35 hw))) (mvT hZ (w_35 hw)) (mvT hZ (w_34 hw)) (by decide) (backOf (W := 0) (rm5t19 l Z a0 hw [] b15 (FP.i2d p2) (FP.i2d p5) tn_16 ts_16 tm_16 tp_16 kn_16 ks_16 km_16 kp_16 (.int 0) (.int 0) (.int 0) (.double 0) (.double 0) (.double 0) (.double 0) (.double 0) (.double 0) (.int 0) (.int 0) h16 n0 Z0 E_b15 F_b15_nodes F_b15_seconds F_b15_metres F_b15_position F_b15_size V_tn_16 V_ts_16 V_tm_16 V_tp_16 g_b15 g_tn_16 g_ts_16 g_tm_16 g_tp_16 ne_b15_tn_16 ne_b15_ts_16 ne_b15_tm_16 ne_b15_tp_16 ne_tn_16_ts_16 ne_tn_16_tm_16 ne_tn_16_tp_16 ne_ts_16_tm_16 ne_ts_16_tp_16 ne_tm_16_tp_16) hZ (w_36 hw) (w_2 hw) (by decide) (by decide)) q203a q203c (g := (mkF m 29 #[.val (.int p1), .val (.int p2), .val (.int p3), .val (.int p4), .val (.int p5), .val (.int p6), .val (.int 2), .val (.ref b15), .unset, .unset, .unset, .unset] [(.double (FP.i2d p5)), (.double (FP.i2d p2)), (.int 2), (.ref b15)])) rfl (by rw [hml]; rfl) (Steps.refl _) (argsL := [(.int 2), (.double (FP.i2d p2)), (.double (FP.i2d p5))]) (rest := []) (lenOf pd_3 rfl) rfl (by show 2 * 0 + _ ≤ _; exact Nat.le_of_eq rfl) (hb hby at_29) (fun _ _ => ⟨rfl, e16, (by decide : 5 + 0 ≤ _), (by decide : 17 + 0 ≤ _)⟩)
    dsimp only [Pt.U, Pt.locs, Pt.cells, Pt.slots] at X203 l203 y203 z203 st203 hQ203
    subst l203 y203 z203
    obtain ⟨rfl, Nq203, Kq203, nF203_b15_nodes, nF203_b15_seconds, nF203_b15_metres, nF203_b15_position, nF203_b15_size, nA203_tn_16, nA203_ts_16, nA203_tm_16, nA203_tp_16⟩ := hQ203
    replace NF := Fr.app NF Nq203
    clear Nq203
    refine WP.tr st203 ?_
    clear st203
    obtain ⟨h203, e203⟩ : ∃ h, T203.heap = h := ⟨_, rfl⟩
    rw [e203] at Kq203 nF203_b15_nodes nF203_b15_seconds nF203_b15_metres nF203_b15_position nF203_b15_size nA203_tn_16 nA203_ts_16 nA203_tm_16 nA203_tp_16
    replace E_b15 := E_b15.keep Kq203
    clear F_b15_nodes
    clear F_b15_seconds
    clear F_b15_metres
    clear F_b15_position
    clear F_b15_size
    clear V_tn_16
    clear V_ts_16
    clear V_tm_16
    clear V_tp_16
    replace Z0 := Nat.le_trans Z0 Kq203.1
    clear Kq203
    have F_b15_nodes := nF203_b15_nodes
    clear nF203_b15_nodes
    have F_b15_seconds := nF203_b15_seconds
    clear nF203_b15_seconds
    have F_b15_metres := nF203_b15_metres
    clear nF203_b15_metres
    have F_b15_position := nF203_b15_position
    clear nF203_b15_position
    have F_b15_size := nF203_b15_size
    clear nF203_b15_size
    have V_tn_16 := nA203_tn_16
    clear nA203_tn_16
    have V_ts_16 := nA203_ts_16
    clear nA203_ts_16
    have V_tm_16 := nA203_tm_16
    clear nA203_tm_16
    have V_tp_16 := nA203_tp_16
    clear nA203_tp_16
    show WP p.tables e below _ T203 (mkF m 32 #[.val (.int p1), .val (.int p2), .val (.int p3), .val (.int p4), .val (.int p5), .val (.int p6), .val (.int 2), .val (.ref b15), .unset, .unset, .unset, .unset] [])
    refine WP.st (T' := T203) (f' := (mkF m 46 #[.val (.int p1), .val (.int p2), .val (.int p3), .val (.int p4), .val (.int p5), .val (.int p6), .val (.int 2), .val (.ref b15), .unset, .unset, .unset, .unset] [(.double (FP.i2d p6)), (.double (FP.i2d p3)), (.int 1), (.ref b15)])) (fun t k => ?_) ?_
    · refine XS.iload X203.here hx rfl (hb hby at_32) rfl ?_
      refine XS.iconst X203.here hx rfl (hb hby at_34) ?_
      refine XS.icmpNo X203.here hx rfl (hb hby at_35) rfl (flt (by decide : ¬ ((2 : Int32) < (2 : Int32)))).1 ?_
      refine XS.aload X203.here hx rfl (hb hby at_38) rfl rfl ?_
      refine XS.iconst X203.here hx rfl (hb hby at_40) ?_
      refine XS.iloadN X203.here hx rfl (hb hby at_41) rfl ?_
      refine XS.i2dS X203.here hx rfl (hb hby at_42) rfl rfl ?_
      refine XS.iload X203.here hx rfl (hb hby at_43) rfl ?_
      show Steps p.tables e below (T203.setTop (mkF m 45 #[.val (.int p1), .val (.int p2), .val (.int p3), .val (.int p4), .val (.int p5), .val (.int p6), .val (.int 2), .val (.ref b15), .unset, .unset, .unset, .unset] [(.int p6), (.double (FP.i2d p3)), (.int 1), (.ref b15)])) t
      refine XS.i2dS X203.here hx rfl (hb hby at_45) rfl rfl ?_
      exact k
    by_cases hc204 : (own_before (FP.i2d p3) (FP.i2d p6) (FP.i2d p2) (FP.i2d p5)) = (0 : Int32)
    · skip
      obtain ⟨cq228, kq228, q228a, q228b, q228c⟩ := isOf hZ e203 E_b15
      obtain ⟨_, _, ⟨T228, L228, k228, n228⟩, -, X228, ⟨Lc228, hQ228, l228, y228, z228⟩, st228⟩ := X203.virtualBack hx (y := (⟨"com/example/tandemcab/tandemcab/NodeQueue", "offer", "(IDD)V"⟩ : MethodName)) (z := (⟨"com/example/tandemcab/tandemcab/NodeQueue", "offer", "(IDD)V"⟩ : MethodName)) hown (mvT hZ (w_32 hw)) (mvT hZ (w_33 hw)) (notFace_of_selects (args := #[]) (mvT hZ (w_35 hw))) (mvT hZ (w_35 hw)) (mvT hZ (w_34 hw)) (by decide) (backOf (W := 0) (rm5t22 l Z a0 hw [] b15 (FP.i2d p3) (FP.i2d p6) tn_16 ts_16 tm_16 tp_16 kn_16 ks_16 km_16 kp_16 (.int 0) (.int 0) (FP.i2d p2) (.double 0) (.double 0) (FP.i2d p5) (.double 0) (.double 0) (.int 0) (.int 1) h203 n0 Z0 E_b15 F_b15_nodes F_b15_seconds F_b15_metres F_b15_position F_b15_size V_tn_16 V_ts_16 V_tm_16 V_tp_16 g_b15 g_tn_16 g_ts_16 g_tm_16 g_tp_16 ne_b15_tn_16 ne_b15_ts_16 ne_b15_tm_16 ne_b15_tp_16 ne_tn_16_ts_16 ne_tn_16_tm_16 ne_tn_16_tp_16 ne_ts_16_tm_16 ne_ts_16_tp_16 ne_tm_16_tp_16 hc204) hZ (w_36 hw) (w_2 hw) (by decide) (by decide)) q228a q228c (g := (mkF m 46 #[.val (.int p1), .val (.int p2), .val (.int p3), .val (.int p4), .val (.int p5), .val (.int p6), .val (.int 2), .val (.ref b15), .unset, .unset, .unset, .unset] [(.double (FP.i2d p6)), (.double (FP.i2d p3)), (.int 1), (.ref b15)])) rfl (by rw [hml]; rfl) (Steps.refl _) (argsL := [(.int 1), (.double (FP.i2d p3)), (.double (FP.i2d p6))]) (rest := []) (lenOf pd_3 rfl) rfl (by show 2 * 0 + _ ≤ _; exact Nat.le_of_eq rfl) (hb hby at_46) (fun _ _ => ⟨rfl, e203, (by decide : 5 + 0 ≤ _), (by decide : 17 + 0 ≤ _)⟩)
      dsimp only [Pt.U, Pt.locs, Pt.cells, Pt.slots] at X228 l228 y228 z228 st228 hQ228
      subst l228 y228 z228
      obtain ⟨rfl, Nq228, Kq228, nF228_b15_nodes, nF228_b15_seconds, nF228_b15_metres, nF228_b15_position, nF228_b15_size, nA228_tn_16, nA228_ts_16, nA228_tm_16, nA228_tp_16⟩ := hQ228
      replace NF := Fr.app NF Nq228
      clear Nq228
      refine WP.tr st228 ?_
      clear st228
      obtain ⟨h228, e228⟩ : ∃ h, T228.heap = h := ⟨_, rfl⟩
      rw [e228] at Kq228 nF228_b15_nodes nF228_b15_seconds nF228_b15_metres nF228_b15_position nF228_b15_size nA228_tn_16 nA228_ts_16 nA228_tm_16 nA228_tp_16
      replace E_b15 := E_b15.keep Kq228
      clear F_b15_nodes
      clear F_b15_seconds
      clear F_b15_metres
      clear F_b15_position
      clear F_b15_size
      clear V_tn_16
      clear V_ts_16
      clear V_tm_16
      clear V_tp_16
      replace Z0 := Nat.le_trans Z0 Kq228.1
      clear Kq228
      have F_b15_nodes := nF228_b15_nodes
      clear nF228_b15_nodes
      have F_b15_seconds := nF228_b15_seconds
      clear nF228_b15_seconds
      have F_b15_metres := nF228_b15_metres
      clear nF228_b15_metres
      have F_b15_position := nF228_b15_position
      clear nF228_b15_position
      have F_b15_size := nF228_b15_size
      clear nF228_b15_size
      have V_tn_16 := nA228_tn_16
      clear nA228_tn_16
      have V_ts_16 := nA228_ts_16
      clear nA228_ts_16
      have V_tm_16 := nA228_tm_16
      clear nA228_tm_16
      have V_tp_16 := nA228_tp_16
      clear nA228_tp_16
      show WP p.tables e below _ T228 (mkF m 49 #[.val (.int p1), .val (.int p2), .val (.int p3), .val (.int p4), .val (.int p5), .val (.int p6), .val (.int 2), .val (.ref b15), .unset, .unset, .unset, .unset] [])
      refine WP.st (T' := T228) (f' := (mkF m 71 #[.val (.int p1), .val (.int p2), .val (.int p3), .val (.int p4), .val (.int p5), .val (.int p6), .val (.int 2), .val (.ref b15), .unset, .unset, .unset, .unset] [(.ref b15)])) (fun t k => ?_) ?_
      · refine XS.iload X228.here hx rfl (hb hby at_49) rfl ?_
        refine XS.iconst X228.here hx rfl (hb hby at_51) ?_
        refine XS.icmpYes X228.here hx rfl (pc0 := 52) (pc' := 69) rfl (hb hby at_52) rfl (tlt (by decide : (2 : Int32) < (3 : Int32))).1 (by decide) (by decide) ?_
        refine XS.aload X228.here hx rfl (hb hby at_69) rfl rfl ?_
        exact k
      obtain ⟨cq243, kq243, q243a, q243b, q243c⟩ := isOf hZ e228 E_b15
      obtain ⟨_, _, ⟨T243, L243, k243, n243⟩, -, X243, ⟨Lc243, hQ243, l243, y243, z243⟩, st243⟩ := X228.virtualBack hx (y := (⟨"com/example/tandemcab/tandemcab/NodeQueue", "clear", "()V"⟩ : MethodName)) (z := (⟨"com/example/tandemcab/tandemcab/NodeQueue", "clear", "()V"⟩ : MethodName)) hown (mvT hZ (w_19 hw)) (mvT hZ (w_20 hw)) (notFace_of_selects (args := #[]) (mvT hZ (w_22 hw))) (mvT hZ (w_22 hw)) (mvT hZ (w_21 hw)) (by decide) (backOf (W := 0) (rm3t25 l Z a0 hw [] b15 tn_16 ts_16 tm_16 tp_16 kn_16 ks_16 km_16 kp_16 (.int 0) (.double (FP.i2d p2)) (.double (FP.i2d p3)) (.double 0) (.double (FP.i2d p5)) (.double (FP.i2d p6)) (.double 0) (.int 0) (.int 2) (.int 1) h228 n0 Z0 E_b15 F_b15_nodes F_b15_seconds F_b15_metres F_b15_position F_b15_size V_tn_16 V_ts_16 V_tm_16 V_tp_16 g_b15 g_tn_16 g_ts_16 g_tm_16 g_tp_16 ne_b15_tn_16 ne_b15_ts_16 ne_b15_tm_16 ne_b15_tp_16 ne_tn_16_ts_16 ne_tn_16_tm_16 ne_tn_16_tp_16 ne_ts_16_tm_16 ne_ts_16_tp_16 ne_tm_16_tp_16) hZ (w_23 hw) (w_2 hw) (by decide) (by decide)) q243a q243c (g := (mkF m 71 #[.val (.int p1), .val (.int p2), .val (.int p3), .val (.int p4), .val (.int p5), .val (.int p6), .val (.int 2), .val (.ref b15), .unset, .unset, .unset, .unset] [(.ref b15)])) rfl (by rw [hml]; rfl) (Steps.refl _) (argsL := []) (rest := []) (lenOf pd_7 rfl) rfl (by show 2 * 0 + _ ≤ _; exact Nat.le_of_eq rfl) (hb hby at_71) (fun _ _ => ⟨rfl, e228, (by decide : 5 + 0 ≤ _), (by decide : 17 + 0 ≤ _)⟩)
      dsimp only [Pt.U, Pt.locs, Pt.cells, Pt.slots] at X243 l243 y243 z243 st243 hQ243
      subst l243 y243 z243
      obtain ⟨rfl, Nq243, Kq243, nF243_b15_nodes, nF243_b15_seconds, nF243_b15_metres, nF243_b15_position, nF243_b15_size, nA243_tn_16, nA243_ts_16, nA243_tm_16, nA243_tp_16⟩ := hQ243
      replace NF := Fr.app NF Nq243
      clear Nq243
      refine WP.tr st243 ?_
      clear st243
      obtain ⟨h243, e243⟩ : ∃ h, T243.heap = h := ⟨_, rfl⟩
      rw [e243] at Kq243 nF243_b15_nodes nF243_b15_seconds nF243_b15_metres nF243_b15_position nF243_b15_size nA243_tn_16 nA243_ts_16 nA243_tm_16 nA243_tp_16
      replace E_b15 := E_b15.keep Kq243
      clear F_b15_nodes
      clear F_b15_seconds
      clear F_b15_metres
      clear F_b15_position
      clear F_b15_size
      clear V_tn_16
      clear V_ts_16
      clear V_tm_16
      clear V_tp_16
      replace Z0 := Nat.le_trans Z0 Kq243.1
      clear Kq243
      have F_b15_nodes := nF243_b15_nodes
      clear nF243_b15_nodes
      have F_b15_seconds := nF243_b15_seconds
      clear nF243_b15_seconds
      have F_b15_metres := nF243_b15_metres
      clear nF243_b15_metres
      have F_b15_position := nF243_b15_position
      clear nF243_b15_position
      have F_b15_size := nF243_b15_size
      clear nF243_b15_size
      have V_tn_16 := nA243_tn_16
      clear nA243_tn_16
      have V_ts_16 := nA243_ts_16
      clear nA243_ts_16
      have V_tm_16 := nA243_tm_16
      clear nA243_tm_16
      have V_tp_16 := nA243_tp_16
      clear nA243_tp_16
      show WP p.tables e below _ T243 (mkF m 74 #[.val (.int p1), .val (.int p2), .val (.int p3), .val (.int p4), .val (.int p5), .val (.int p6), .val (.int 2), .val (.ref b15), .unset, .unset, .unset, .unset] [])
      exact J17 _ _ _ (2 : Int32) (.int 2) (.int 1) (.int 0) (.double (FP.i2d p2)) (.double (FP.i2d p3)) (.double 0) (.double (FP.i2d p5)) (.double (FP.i2d p6)) (.double 0) (ownWider X243 (by decide) (by decide)) e243 NF Z0 E_b15 F_b15_nodes F_b15_seconds F_b15_metres F_b15_position F_b15_size V_tn_16 V_ts_16 V_tm_16 V_tp_16 
    · skip
      obtain ⟨cq275, kq275, q275a, q275b, q275c⟩ := isOf hZ e203 E_b15
      obtain ⟨_, _, ⟨T275, L275, k275, n275⟩, -, X275, ⟨Lc275, hQ275, l275, y275, z275⟩, st275⟩ := X203.virtualBack hx (y := (⟨"com/example/tandemcab/tandemcab/NodeQueue", "offer", "(IDD)V"⟩ : MethodName)) (z := (⟨"com/example/tandemcab/tandemcab/NodeQueue", "offer", "(IDD)V"⟩ : MethodName)) hown (mvT hZ (w_32 hw)) (mvT hZ (w_33 hw)) (notFace_of_selects (args := #[]) (mvT hZ (w_35 hw))) (mvT hZ (w_35 hw)) (mvT hZ (w_34 hw)) (by decide) (backOf (W := 0) (rm5t26 l Z a0 hw [] b15 (FP.i2d p3) (FP.i2d p6) tn_16 ts_16 tm_16 tp_16 kn_16 ks_16 km_16 kp_16 (.int 0) (.int 0) (FP.i2d p2) (.double 0) (.double 0) (FP.i2d p5) (.double 0) (.double 0) (.int 0) (.int 1) h203 n0 Z0 E_b15 F_b15_nodes F_b15_seconds F_b15_metres F_b15_position F_b15_size V_tn_16 V_ts_16 V_tm_16 V_tp_16 g_b15 g_tn_16 g_ts_16 g_tm_16 g_tp_16 ne_b15_tn_16 ne_b15_ts_16 ne_b15_tm_16 ne_b15_tp_16 ne_tn_16_ts_16 ne_tn_16_tm_16 ne_tn_16_tp_16 ne_ts_16_tm_16 ne_ts_16_tp_16 ne_tm_16_tp_16 hc204) hZ (w_36 hw) (w_2 hw) (by decide) (by decide)) q275a q275c (g := (mkF m 46 #[.val (.int p1), .val (.int p2), .val (.int p3), .val (.int p4), .val (.int p5), .val (.int p6), .val (.int 2), .val (.ref b15), .unset, .unset, .unset, .unset] [(.double (FP.i2d p6)), (.double (FP.i2d p3)), (.int 1), (.ref b15)])) rfl (by rw [hml]; rfl) (Steps.refl _) (argsL := [(.int 1), (.double (FP.i2d p3)), (.double (FP.i2d p6))]) (rest := []) (lenOf pd_3 rfl) rfl (by show 2 * 0 + _ ≤ _; exact Nat.le_of_eq rfl) (hb hby at_46) (fun _ _ => ⟨rfl, e203, (by decide : 5 + 0 ≤ _), (by decide : 17 + 0 ≤ _)⟩)
      dsimp only [Pt.U, Pt.locs, Pt.cells, Pt.slots] at X275 l275 y275 z275 st275 hQ275
      subst l275 y275 z275
      obtain ⟨rfl, Nq275, Kq275, nF275_b15_nodes, nF275_b15_seconds, nF275_b15_metres, nF275_b15_position, nF275_b15_size, nA275_tn_16, nA275_ts_16, nA275_tm_16, nA275_tp_16⟩ := hQ275
      replace NF := Fr.app NF Nq275
      clear Nq275
      refine WP.tr st275 ?_
      clear st275
      obtain ⟨h275, e275⟩ : ∃ h, T275.heap = h := ⟨_, rfl⟩
      rw [e275] at Kq275 nF275_b15_nodes nF275_b15_seconds nF275_b15_metres nF275_b15_position nF275_b15_size nA275_tn_16 nA275_ts_16 nA275_tm_16 nA275_tp_16
      replace E_b15 := E_b15.keep Kq275
      clear F_b15_nodes
      clear F_b15_seconds
      clear F_b15_metres
      clear F_b15_position
      clear F_b15_size
      clear V_tn_16
      clear V_ts_16
      clear V_tm_16
      clear V_tp_16
      replace Z0 := Nat.le_trans Z0 Kq275.1
      clear Kq275
      have F_b15_nodes := nF275_b15_nodes
      clear nF275_b15_nodes
      have F_b15_seconds := nF275_b15_seconds
      clear nF275_b15_seconds
      have F_b15_metres := nF275_b15_metres
      clear nF275_b15_metres
      have F_b15_position := nF275_b15_position
      clear nF275_b15_position
      have F_b15_size := nF275_b15_size
      clear nF275_b15_size
      have V_tn_16 := nA275_tn_16
      clear nA275_tn_16
      have V_ts_16 := nA275_ts_16
      clear nA275_ts_16
      have V_tm_16 := nA275_tm_16
      clear nA275_tm_16
      have V_tp_16 := nA275_tp_16
      clear nA275_tp_16
      show WP p.tables e below _ T275 (mkF m 49 #[.val (.int p1), .val (.int p2), .val (.int p3), .val (.int p4), .val (.int p5), .val (.int p6), .val (.int 2), .val (.ref b15), .unset, .unset, .unset, .unset] [])
      refine WP.st (T' := T275) (f' := (mkF m 71 #[.val (.int p1), .val (.int p2), .val (.int p3), .val (.int p4), .val (.int p5), .val (.int p6), .val (.int 2), .val (.ref b15), .unset, .unset, .unset, .unset] [(.ref b15)])) (fun t k => ?_) ?_
      · refine XS.iload X275.here hx rfl (hb hby at_49) rfl ?_
        refine XS.iconst X275.here hx rfl (hb hby at_51) ?_
        refine XS.icmpYes X275.here hx rfl (pc0 := 52) (pc' := 69) rfl (hb hby at_52) rfl (tlt (by decide : (2 : Int32) < (3 : Int32))).1 (by decide) (by decide) ?_
        refine XS.aload X275.here hx rfl (hb hby at_69) rfl rfl ?_
        exact k
      obtain ⟨cq290, kq290, q290a, q290b, q290c⟩ := isOf hZ e275 E_b15
      obtain ⟨_, _, ⟨T290, L290, k290, n290⟩, -, X290, ⟨Lc290, hQ290, l290, y290, z290⟩, st290⟩ := X275.virtualBack hx (y := (⟨"com/example/tandemcab/tandemcab/NodeQueue", "clear", "()V"⟩ : MethodName)) (z := (⟨"com/example/tandemcab/tandemcab/NodeQueue", "clear", "()V"⟩ : MethodName)) hown (mvT hZ (w_19 hw)) (mvT hZ (w_20 hw)) (notFace_of_selects (args := #[]) (mvT hZ (w_22 hw))) (mvT hZ (w_22 hw)) (mvT hZ (w_21 hw)) (by decide) (backOf (W := 0) (rm3t30 l Z a0 hw [] b15 tn_16 ts_16 tm_16 tp_16 kn_16 ks_16 km_16 kp_16 (.int 0) (.double (FP.i2d p3)) (.double (FP.i2d p2)) (.double 0) (.double (FP.i2d p6)) (.double (FP.i2d p5)) (.double 0) (.int 0) (.int 1) (.int 2) h275 n0 Z0 E_b15 F_b15_nodes F_b15_seconds F_b15_metres F_b15_position F_b15_size V_tn_16 V_ts_16 V_tm_16 V_tp_16 g_b15 g_tn_16 g_ts_16 g_tm_16 g_tp_16 ne_b15_tn_16 ne_b15_ts_16 ne_b15_tm_16 ne_b15_tp_16 ne_tn_16_ts_16 ne_tn_16_tm_16 ne_tn_16_tp_16 ne_ts_16_tm_16 ne_ts_16_tp_16 ne_tm_16_tp_16) hZ (w_23 hw) (w_2 hw) (by decide) (by decide)) q290a q290c (g := (mkF m 71 #[.val (.int p1), .val (.int p2), .val (.int p3), .val (.int p4), .val (.int p5), .val (.int p6), .val (.int 2), .val (.ref b15), .unset, .unset, .unset, .unset] [(.ref b15)])) rfl (by rw [hml]; rfl) (Steps.refl _) (argsL := []) (rest := []) (lenOf pd_7 rfl) rfl (by show 2 * 0 + _ ≤ _; exact Nat.le_of_eq rfl) (hb hby at_71) (fun _ _ => ⟨rfl, e275, (by decide : 5 + 0 ≤ _), (by decide : 17 + 0 ≤ _)⟩)
      dsimp only [Pt.U, Pt.locs, Pt.cells, Pt.slots] at X290 l290 y290 z290 st290 hQ290
      subst l290 y290 z290
      obtain ⟨rfl, Nq290, Kq290, nF290_b15_nodes, nF290_b15_seconds, nF290_b15_metres, nF290_b15_position, nF290_b15_size, nA290_tn_16, nA290_ts_16, nA290_tm_16, nA290_tp_16⟩ := hQ290
      replace NF := Fr.app NF Nq290
      clear Nq290
      refine WP.tr st290 ?_
      clear st290
      obtain ⟨h290, e290⟩ : ∃ h, T290.heap = h := ⟨_, rfl⟩
      rw [e290] at Kq290 nF290_b15_nodes nF290_b15_seconds nF290_b15_metres nF290_b15_position nF290_b15_size nA290_tn_16 nA290_ts_16 nA290_tm_16 nA290_tp_16
      replace E_b15 := E_b15.keep Kq290
      clear F_b15_nodes
      clear F_b15_seconds
      clear F_b15_metres
      clear F_b15_position
      clear F_b15_size
      clear V_tn_16
      clear V_ts_16
      clear V_tm_16
      clear V_tp_16
      replace Z0 := Nat.le_trans Z0 Kq290.1
      clear Kq290
      have F_b15_nodes := nF290_b15_nodes
      clear nF290_b15_nodes
      have F_b15_seconds := nF290_b15_seconds
      clear nF290_b15_seconds
      have F_b15_metres := nF290_b15_metres
      clear nF290_b15_metres
      have F_b15_position := nF290_b15_position
      clear nF290_b15_position
      have F_b15_size := nF290_b15_size
      clear nF290_b15_size
      have V_tn_16 := nA290_tn_16
      clear nA290_tn_16
      have V_ts_16 := nA290_ts_16
      clear nA290_ts_16
      have V_tm_16 := nA290_tm_16
      clear nA290_tm_16
      have V_tp_16 := nA290_tp_16
      clear nA290_tp_16
      show WP p.tables e below _ T290 (mkF m 74 #[.val (.int p1), .val (.int p2), .val (.int p3), .val (.int p4), .val (.int p5), .val (.int p6), .val (.int 2), .val (.ref b15), .unset, .unset, .unset, .unset] [])
      exact J17 _ _ _ (2 : Int32) (.int 1) (.int 2) (.int 0) (.double (FP.i2d p3)) (.double (FP.i2d p2)) (.double 0) (.double (FP.i2d p6)) (.double (FP.i2d p5)) (.double 0) (ownWider X290 (by decide) (by decide)) e290 NF Z0 E_b15 F_b15_nodes F_b15_seconds F_b15_metres F_b15_position F_b15_size V_tn_16 V_ts_16 V_tm_16 V_tp_16 
  · skip
    show WP p.tables e below _ T16 (mkF m 15 #[.val (.int p1), .val (.int p2), .val (.int p3), .val (.int p4), .val (.int p5), .val (.int p6), .val (.int 3), .val (.ref b15), .unset, .unset, .unset, .unset] [])
    refine WP.st (T' := T16) (f' := (mkF m 29 #[.val (.int p1), .val (.int p2), .val (.int p3), .val (.int p4), .val (.int p5), .val (.int p6), .val (.int 3), .val (.ref b15), .unset, .unset, .unset, .unset] [(.double (FP.i2d p5)), (.double (FP.i2d p2)), (.int 2), (.ref b15)])) (fun t k => ?_) ?_
    · refine XS.iload X16.here hx rfl (hb hby at_15) rfl ?_
      refine XS.iconst X16.here hx rfl (hb hby at_17) ?_
      refine XS.icmpNo X16.here hx rfl (hb hby at_18) rfl (flt (by decide : ¬ ((3 : Int32) < (1 : Int32)))).1 ?_
      refine XS.aload X16.here hx rfl (hb hby at_21) rfl rfl ?_
      refine XS.iconst X16.here hx rfl (hb hby at_23) ?_
      refine XS.iloadN X16.here hx rfl (hb hby at_24) rfl ?_
      refine XS.i2dS X16.here hx rfl (hb hby at_25) rfl rfl ?_
      refine XS.iload X16.here hx rfl (hb hby at_26) rfl ?_
      show Steps p.tables e below (T16.setTop (mkF m 28 #[.val (.int p1), .val (.int p2), .val (.int p3), .val (.int p4), .val (.int p5), .val (.int p6), .val (.int 3), .val (.ref b15), .unset, .unset, .unset, .unset] [(.int p5), (.double (FP.i2d p2)), (.int 2), (.ref b15)])) t
      refine XS.i2dS X16.here hx rfl (hb hby at_28) rfl rfl ?_
      exact k
    obtain ⟨cq291, kq291, q291a, q291b, q291c⟩ := isOf hZ e16 E_b15
    obtain ⟨_, _, ⟨T291, L291, k291, n291⟩, -, X291, ⟨Lc291, hQ291, l291, y291, z291⟩, st291⟩ := X16.virtualBack hx (y := (⟨"com/example/tandemcab/tandemcab/NodeQueue", "offer", "(IDD)V"⟩ : MethodName)) (z := (⟨"com/example/tandemcab/tandemcab/NodeQueue", "offer", "(IDD)V"⟩ : MethodName)) hown (mvT hZ (w_32 hw)) (mvT hZ (w_33 hw)) (notFace_of_selects (args := #[]) (mvT hZ (w_35 hw))) (mvT hZ (w_35 hw)) (mvT hZ (w_34 hw)) (by decide) (backOf (W := 0) (rm5t19 l Z a0 hw [] b15 (FP.i2d p2) (FP.i2d p5) tn_16 ts_16 tm_16 tp_16 kn_16 ks_16 km_16 kp_16 (.int 0) (.int 0) (.int 0) (.double 0) (.double 0) (.double 0) (.double 0) (.double 0) (.double 0) (.int 0) (.int 0) h16 n0 Z0 E_b15 F_b15_nodes F_b15_seconds F_b15_metres F_b15_position F_b15_size V_tn_16 V_ts_16 V_tm_16 V_tp_16 g_b15 g_tn_16 g_ts_16 g_tm_16 g_tp_16 ne_b15_tn_16 ne_b15_ts_16 ne_b15_tm_16 ne_b15_tp_16 ne_tn_16_ts_16 ne_tn_16_tm_16 ne_tn_16_tp_16 ne_ts_16_tm_16 ne_ts_16_tp_16 ne_tm_16_tp_16) hZ (w_36 hw) (w_2 hw) (by decide) (by decide)) q291a q291c (g := (mkF m 29 #[.val (.int p1), .val (.int p2), .val (.int p3), .val (.int p4), .val (.int p5), .val (.int p6), .val (.int 3), .val (.ref b15), .unset, .unset, .unset, .unset] [(.double (FP.i2d p5)), (.double (FP.i2d p2)), (.int 2), (.ref b15)])) rfl (by rw [hml]; rfl) (Steps.refl _) (argsL := [(.int 2), (.double (FP.i2d p2)), (.double (FP.i2d p5))]) (rest := []) (lenOf pd_3 rfl) rfl (by show 2 * 0 + _ ≤ _; exact Nat.le_of_eq rfl) (hb hby at_29) (fun _ _ => ⟨rfl, e16, (by decide : 5 + 0 ≤ _), (by decide : 17 + 0 ≤ _)⟩)
    dsimp only [Pt.U, Pt.locs, Pt.cells, Pt.slots] at X291 l291 y291 z291 st291 hQ291
    subst l291 y291 z291
    obtain ⟨rfl, Nq291, Kq291, nF291_b15_nodes, nF291_b15_seconds, nF291_b15_metres, nF291_b15_position, nF291_b15_size, nA291_tn_16, nA291_ts_16, nA291_tm_16, nA291_tp_16⟩ := hQ291
    replace NF := Fr.app NF Nq291
    clear Nq291
    refine WP.tr st291 ?_
    clear st291
    obtain ⟨h291, e291⟩ : ∃ h, T291.heap = h := ⟨_, rfl⟩
    rw [e291] at Kq291 nF291_b15_nodes nF291_b15_seconds nF291_b15_metres nF291_b15_position nF291_b15_size nA291_tn_16 nA291_ts_16 nA291_tm_16 nA291_tp_16
    replace E_b15 := E_b15.keep Kq291
    clear F_b15_nodes
    clear F_b15_seconds
    clear F_b15_metres
    clear F_b15_position
    clear F_b15_size
    clear V_tn_16
    clear V_ts_16
    clear V_tm_16
    clear V_tp_16
    replace Z0 := Nat.le_trans Z0 Kq291.1
    clear Kq291
    have F_b15_nodes := nF291_b15_nodes
    clear nF291_b15_nodes
    have F_b15_seconds := nF291_b15_seconds
    clear nF291_b15_seconds
    have F_b15_metres := nF291_b15_metres
    clear nF291_b15_metres
    have F_b15_position := nF291_b15_position
    clear nF291_b15_position
    have F_b15_size := nF291_b15_size
    clear nF291_b15_size
    have V_tn_16 := nA291_tn_16
    clear nA291_tn_16
    have V_ts_16 := nA291_ts_16
    clear nA291_ts_16
    have V_tm_16 := nA291_tm_16
    clear nA291_tm_16
    have V_tp_16 := nA291_tp_16
    clear nA291_tp_16
    show WP p.tables e below _ T291 (mkF m 32 #[.val (.int p1), .val (.int p2), .val (.int p3), .val (.int p4), .val (.int p5), .val (.int p6), .val (.int 3), .val (.ref b15), .unset, .unset, .unset, .unset] [])
    refine WP.st (T' := T291) (f' := (mkF m 46 #[.val (.int p1), .val (.int p2), .val (.int p3), .val (.int p4), .val (.int p5), .val (.int p6), .val (.int 3), .val (.ref b15), .unset, .unset, .unset, .unset] [(.double (FP.i2d p6)), (.double (FP.i2d p3)), (.int 1), (.ref b15)])) (fun t k => ?_) ?_
    · refine XS.iload X291.here hx rfl (hb hby at_32) rfl ?_
      refine XS.iconst X291.here hx rfl (hb hby at_34) ?_
      refine XS.icmpNo X291.here hx rfl (hb hby at_35) rfl (flt (by decide : ¬ ((3 : Int32) < (2 : Int32)))).1 ?_
      refine XS.aload X291.here hx rfl (hb hby at_38) rfl rfl ?_
      refine XS.iconst X291.here hx rfl (hb hby at_40) ?_
      refine XS.iloadN X291.here hx rfl (hb hby at_41) rfl ?_
      refine XS.i2dS X291.here hx rfl (hb hby at_42) rfl rfl ?_
      refine XS.iload X291.here hx rfl (hb hby at_43) rfl ?_
      show Steps p.tables e below (T291.setTop (mkF m 45 #[.val (.int p1), .val (.int p2), .val (.int p3), .val (.int p4), .val (.int p5), .val (.int p6), .val (.int 3), .val (.ref b15), .unset, .unset, .unset, .unset] [(.int p6), (.double (FP.i2d p3)), (.int 1), (.ref b15)])) t
      refine XS.i2dS X291.here hx rfl (hb hby at_45) rfl rfl ?_
      exact k
    by_cases hc292 : (own_before (FP.i2d p3) (FP.i2d p6) (FP.i2d p2) (FP.i2d p5)) = (0 : Int32)
    · skip
      obtain ⟨cq293, kq293, q293a, q293b, q293c⟩ := isOf hZ e291 E_b15
      obtain ⟨_, _, ⟨T293, L293, k293, n293⟩, -, X293, ⟨Lc293, hQ293, l293, y293, z293⟩, st293⟩ := X291.virtualBack hx (y := (⟨"com/example/tandemcab/tandemcab/NodeQueue", "offer", "(IDD)V"⟩ : MethodName)) (z := (⟨"com/example/tandemcab/tandemcab/NodeQueue", "offer", "(IDD)V"⟩ : MethodName)) hown (mvT hZ (w_32 hw)) (mvT hZ (w_33 hw)) (notFace_of_selects (args := #[]) (mvT hZ (w_35 hw))) (mvT hZ (w_35 hw)) (mvT hZ (w_34 hw)) (by decide) (backOf (W := 0) (rm5t22 l Z a0 hw [] b15 (FP.i2d p3) (FP.i2d p6) tn_16 ts_16 tm_16 tp_16 kn_16 ks_16 km_16 kp_16 (.int 0) (.int 0) (FP.i2d p2) (.double 0) (.double 0) (FP.i2d p5) (.double 0) (.double 0) (.int 0) (.int 1) h291 n0 Z0 E_b15 F_b15_nodes F_b15_seconds F_b15_metres F_b15_position F_b15_size V_tn_16 V_ts_16 V_tm_16 V_tp_16 g_b15 g_tn_16 g_ts_16 g_tm_16 g_tp_16 ne_b15_tn_16 ne_b15_ts_16 ne_b15_tm_16 ne_b15_tp_16 ne_tn_16_ts_16 ne_tn_16_tm_16 ne_tn_16_tp_16 ne_ts_16_tm_16 ne_ts_16_tp_16 ne_tm_16_tp_16 hc292) hZ (w_36 hw) (w_2 hw) (by decide) (by decide)) q293a q293c (g := (mkF m 46 #[.val (.int p1), .val (.int p2), .val (.int p3), .val (.int p4), .val (.int p5), .val (.int p6), .val (.int 3), .val (.ref b15), .unset, .unset, .unset, .unset] [(.double (FP.i2d p6)), (.double (FP.i2d p3)), (.int 1), (.ref b15)])) rfl (by rw [hml]; rfl) (Steps.refl _) (argsL := [(.int 1), (.double (FP.i2d p3)), (.double (FP.i2d p6))]) (rest := []) (lenOf pd_3 rfl) rfl (by show 2 * 0 + _ ≤ _; exact Nat.le_of_eq rfl) (hb hby at_46) (fun _ _ => ⟨rfl, e291, (by decide : 5 + 0 ≤ _), (by decide : 17 + 0 ≤ _)⟩)
      dsimp only [Pt.U, Pt.locs, Pt.cells, Pt.slots] at X293 l293 y293 z293 st293 hQ293
      subst l293 y293 z293
      obtain ⟨rfl, Nq293, Kq293, nF293_b15_nodes, nF293_b15_seconds, nF293_b15_metres, nF293_b15_position, nF293_b15_size, nA293_tn_16, nA293_ts_16, nA293_tm_16, nA293_tp_16⟩ := hQ293
      replace NF := Fr.app NF Nq293
      clear Nq293
      refine WP.tr st293 ?_
      clear st293
      obtain ⟨h293, e293⟩ : ∃ h, T293.heap = h := ⟨_, rfl⟩
      rw [e293] at Kq293 nF293_b15_nodes nF293_b15_seconds nF293_b15_metres nF293_b15_position nF293_b15_size nA293_tn_16 nA293_ts_16 nA293_tm_16 nA293_tp_16
      replace E_b15 := E_b15.keep Kq293
      clear F_b15_nodes
      clear F_b15_seconds
      clear F_b15_metres
      clear F_b15_position
      clear F_b15_size
      clear V_tn_16
      clear V_ts_16
      clear V_tm_16
      clear V_tp_16
      replace Z0 := Nat.le_trans Z0 Kq293.1
      clear Kq293
      have F_b15_nodes := nF293_b15_nodes
      clear nF293_b15_nodes
      have F_b15_seconds := nF293_b15_seconds
      clear nF293_b15_seconds
      have F_b15_metres := nF293_b15_metres
      clear nF293_b15_metres
      have F_b15_position := nF293_b15_position
      clear nF293_b15_position
      have F_b15_size := nF293_b15_size
      clear nF293_b15_size
      have V_tn_16 := nA293_tn_16
      clear nA293_tn_16
      have V_ts_16 := nA293_ts_16
      clear nA293_ts_16
      have V_tm_16 := nA293_tm_16
      clear nA293_tm_16
      have V_tp_16 := nA293_tp_16
      clear nA293_tp_16
      show WP p.tables e below _ T293 (mkF m 49 #[.val (.int p1), .val (.int p2), .val (.int p3), .val (.int p4), .val (.int p5), .val (.int p6), .val (.int 3), .val (.ref b15), .unset, .unset, .unset, .unset] [])
      refine WP.st (T' := T293) (f' := (mkF m 66 #[.val (.int p1), .val (.int p2), .val (.int p3), .val (.int p4), .val (.int p5), .val (.int p6), .val (.int 3), .val (.ref b15), .unset, .unset, .unset, .unset] [(.double (FP.i2d (p5 ^^^ p6))), (.double (FP.i2d p4)), (.int 0), (.ref b15)])) (fun t k => ?_) ?_
      · refine XS.iload X293.here hx rfl (hb hby at_49) rfl ?_
        refine XS.iconst X293.here hx rfl (hb hby at_51) ?_
        refine XS.icmpNo X293.here hx rfl (hb hby at_52) rfl (flt (by decide : ¬ ((3 : Int32) < (3 : Int32)))).1 ?_
        refine XS.aload X293.here hx rfl (hb hby at_55) rfl rfl ?_
        refine XS.iconst X293.here hx rfl (hb hby at_57) ?_
        refine XS.iloadN X293.here hx rfl (hb hby at_58) rfl ?_
        refine XS.i2dS X293.here hx rfl (hb hby at_59) rfl rfl ?_
        refine XS.iload X293.here hx rfl (hb hby at_60) rfl ?_
        show Steps p.tables e below (T293.setTop (mkF m 62 #[.val (.int p1), .val (.int p2), .val (.int p3), .val (.int p4), .val (.int p5), .val (.int p6), .val (.int 3), .val (.ref b15), .unset, .unset, .unset, .unset] [(.int p5), (.double (FP.i2d p4)), (.int 0), (.ref b15)])) t
        refine XS.iload X293.here hx rfl (hb hby at_62) rfl ?_
        refine XS.ixor X293.here hx rfl (hb hby at_64) rfl ?_
        refine XS.i2dS X293.here hx rfl (hb hby at_65) rfl rfl ?_
        exact k
      by_cases hc294 : (own_before (FP.i2d p4) (FP.i2d (p5 ^^^ p6)) (FP.i2d p2) (FP.i2d p5)) = (0 : Int32)
      · skip
        obtain ⟨cq318, kq318, q318a, q318b, q318c⟩ := isOf hZ e293 E_b15
        obtain ⟨_, _, ⟨T318, L318, k318, n318⟩, -, X318, ⟨Lc318, hQ318, l318, y318, z318⟩, st318⟩ := X293.virtualBack hx (y := (⟨"com/example/tandemcab/tandemcab/NodeQueue", "offer", "(IDD)V"⟩ : MethodName)) (z := (⟨"com/example/tandemcab/tandemcab/NodeQueue", "offer", "(IDD)V"⟩ : MethodName)) hown (mvT hZ (w_32 hw)) (mvT hZ (w_33 hw)) (notFace_of_selects (args := #[]) (mvT hZ (w_35 hw))) (mvT hZ (w_35 hw)) (mvT hZ (w_34 hw)) (by decide) (backOf (W := 0) (rm5t31 l Z a0 hw [] b15 (FP.i2d p4) (FP.i2d (p5 ^^^ p6)) tn_16 ts_16 tm_16 tp_16 kn_16 ks_16 km_16 kp_16 (.int 1) (.int 0) (FP.i2d p2) (.double (FP.i2d p3)) (.double 0) (FP.i2d p5) (.double (FP.i2d p6)) (.double 0) (.int 2) (.int 1) h293 n0 Z0 E_b15 F_b15_nodes F_b15_seconds F_b15_metres F_b15_position F_b15_size V_tn_16 V_ts_16 V_tm_16 V_tp_16 g_b15 g_tn_16 g_ts_16 g_tm_16 g_tp_16 ne_b15_tn_16 ne_b15_ts_16 ne_b15_tm_16 ne_b15_tp_16 ne_tn_16_ts_16 ne_tn_16_tm_16 ne_tn_16_tp_16 ne_ts_16_tm_16 ne_ts_16_tp_16 ne_tm_16_tp_16 hc294) hZ (w_36 hw) (w_2 hw) (by decide) (by decide)) q318a q318c (g := (mkF m 66 #[.val (.int p1), .val (.int p2), .val (.int p3), .val (.int p4), .val (.int p5), .val (.int p6), .val (.int 3), .val (.ref b15), .unset, .unset, .unset, .unset] [(.double (FP.i2d (p5 ^^^ p6))), (.double (FP.i2d p4)), (.int 0), (.ref b15)])) rfl (by rw [hml]; rfl) (Steps.refl _) (argsL := [(.int 0), (.double (FP.i2d p4)), (.double (FP.i2d (p5 ^^^ p6)))]) (rest := []) (lenOf pd_3 rfl) rfl (by show 2 * 0 + _ ≤ _; exact Nat.le_of_eq rfl) (hb hby at_66) (fun _ _ => ⟨rfl, e293, (by decide : 5 + 0 ≤ _), (by decide : 17 + 0 ≤ _)⟩)
        dsimp only [Pt.U, Pt.locs, Pt.cells, Pt.slots] at X318 l318 y318 z318 st318 hQ318
        subst l318 y318 z318
        obtain ⟨rfl, Nq318, Kq318, nF318_b15_nodes, nF318_b15_seconds, nF318_b15_metres, nF318_b15_position, nF318_b15_size, nA318_tn_16, nA318_ts_16, nA318_tm_16, nA318_tp_16⟩ := hQ318
        replace NF := Fr.app NF Nq318
        clear Nq318
        refine WP.tr st318 ?_
        clear st318
        obtain ⟨h318, e318⟩ : ∃ h, T318.heap = h := ⟨_, rfl⟩
        rw [e318] at Kq318 nF318_b15_nodes nF318_b15_seconds nF318_b15_metres nF318_b15_position nF318_b15_size nA318_tn_16 nA318_ts_16 nA318_tm_16 nA318_tp_16
        replace E_b15 := E_b15.keep Kq318
        clear F_b15_nodes
        clear F_b15_seconds
        clear F_b15_metres
        clear F_b15_position
        clear F_b15_size
        clear V_tn_16
        clear V_ts_16
        clear V_tm_16
        clear V_tp_16
        replace Z0 := Nat.le_trans Z0 Kq318.1
        clear Kq318
        have F_b15_nodes := nF318_b15_nodes
        clear nF318_b15_nodes
        have F_b15_seconds := nF318_b15_seconds
        clear nF318_b15_seconds
        have F_b15_metres := nF318_b15_metres
        clear nF318_b15_metres
        have F_b15_position := nF318_b15_position
        clear nF318_b15_position
        have F_b15_size := nF318_b15_size
        clear nF318_b15_size
        have V_tn_16 := nA318_tn_16
        clear nA318_tn_16
        have V_ts_16 := nA318_ts_16
        clear nA318_ts_16
        have V_tm_16 := nA318_tm_16
        clear nA318_tm_16
        have V_tp_16 := nA318_tp_16
        clear nA318_tp_16
        show WP p.tables e below _ T318 (mkF m 69 #[.val (.int p1), .val (.int p2), .val (.int p3), .val (.int p4), .val (.int p5), .val (.int p6), .val (.int 3), .val (.ref b15), .unset, .unset, .unset, .unset] [])
        refine WP.st (T' := T318) (f' := (mkF m 71 #[.val (.int p1), .val (.int p2), .val (.int p3), .val (.int p4), .val (.int p5), .val (.int p6), .val (.int 3), .val (.ref b15), .unset, .unset, .unset, .unset] [(.ref b15)])) (fun t k => ?_) ?_
        · refine XS.aload X318.here hx rfl (hb hby at_69) rfl rfl ?_
          exact k
        obtain ⟨cq339, kq339, q339a, q339b, q339c⟩ := isOf hZ e318 E_b15
        obtain ⟨_, _, ⟨T339, L339, k339, n339⟩, -, X339, ⟨Lc339, hQ339, l339, y339, z339⟩, st339⟩ := X318.virtualBack hx (y := (⟨"com/example/tandemcab/tandemcab/NodeQueue", "clear", "()V"⟩ : MethodName)) (z := (⟨"com/example/tandemcab/tandemcab/NodeQueue", "clear", "()V"⟩ : MethodName)) hown (mvT hZ (w_19 hw)) (mvT hZ (w_20 hw)) (notFace_of_selects (args := #[]) (mvT hZ (w_22 hw))) (mvT hZ (w_22 hw)) (mvT hZ (w_21 hw)) (by decide) (backOf (W := 0) (rm3t34 l Z a0 hw [] b15 tn_16 ts_16 tm_16 tp_16 kn_16 ks_16 km_16 kp_16 (.double (FP.i2d p2)) (.double (FP.i2d p3)) (.double (FP.i2d p4)) (.double (FP.i2d p5)) (.double (FP.i2d p6)) (.double (FP.i2d (p5 ^^^ p6))) (.int 3) (.int 2) (.int 1) h318 n0 Z0 E_b15 F_b15_nodes F_b15_seconds F_b15_metres F_b15_position F_b15_size V_tn_16 V_ts_16 V_tm_16 V_tp_16 g_b15 g_tn_16 g_ts_16 g_tm_16 g_tp_16 ne_b15_tn_16 ne_b15_ts_16 ne_b15_tm_16 ne_b15_tp_16 ne_tn_16_ts_16 ne_tn_16_tm_16 ne_tn_16_tp_16 ne_ts_16_tm_16 ne_ts_16_tp_16 ne_tm_16_tp_16) hZ (w_23 hw) (w_2 hw) (by decide) (by decide)) q339a q339c (g := (mkF m 71 #[.val (.int p1), .val (.int p2), .val (.int p3), .val (.int p4), .val (.int p5), .val (.int p6), .val (.int 3), .val (.ref b15), .unset, .unset, .unset, .unset] [(.ref b15)])) rfl (by rw [hml]; rfl) (Steps.refl _) (argsL := []) (rest := []) (lenOf pd_7 rfl) rfl (by show 2 * 0 + _ ≤ _; exact Nat.le_of_eq rfl) (hb hby at_71) (fun _ _ => ⟨rfl, e318, (by decide : 5 + 0 ≤ _), (by decide : 17 + 0 ≤ _)⟩)
        dsimp only [Pt.U, Pt.locs, Pt.cells, Pt.slots] at X339 l339 y339 z339 st339 hQ339
        subst l339 y339 z339
        obtain ⟨rfl, Nq339, Kq339, nF339_b15_nodes, nF339_b15_seconds, nF339_b15_metres, nF339_b15_position, nF339_b15_size, nA339_tn_16, nA339_ts_16, nA339_tm_16, nA339_tp_16⟩ := hQ339
        replace NF := Fr.app NF Nq339
        clear Nq339
        refine WP.tr st339 ?_
        clear st339
        obtain ⟨h339, e339⟩ : ∃ h, T339.heap = h := ⟨_, rfl⟩
        rw [e339] at Kq339 nF339_b15_nodes nF339_b15_seconds nF339_b15_metres nF339_b15_position nF339_b15_size nA339_tn_16 nA339_ts_16 nA339_tm_16 nA339_tp_16
        replace E_b15 := E_b15.keep Kq339
        clear F_b15_nodes
        clear F_b15_seconds
        clear F_b15_metres
        clear F_b15_position
        clear F_b15_size
        clear V_tn_16
        clear V_ts_16
        clear V_tm_16
        clear V_tp_16
        replace Z0 := Nat.le_trans Z0 Kq339.1
        clear Kq339
        have F_b15_nodes := nF339_b15_nodes
        clear nF339_b15_nodes
        have F_b15_seconds := nF339_b15_seconds
        clear nF339_b15_seconds
        have F_b15_metres := nF339_b15_metres
        clear nF339_b15_metres
        have F_b15_position := nF339_b15_position
        clear nF339_b15_position
        have F_b15_size := nF339_b15_size
        clear nF339_b15_size
        have V_tn_16 := nA339_tn_16
        clear nA339_tn_16
        have V_ts_16 := nA339_ts_16
        clear nA339_ts_16
        have V_tm_16 := nA339_tm_16
        clear nA339_tm_16
        have V_tp_16 := nA339_tp_16
        clear nA339_tp_16
        show WP p.tables e below _ T339 (mkF m 74 #[.val (.int p1), .val (.int p2), .val (.int p3), .val (.int p4), .val (.int p5), .val (.int p6), .val (.int 3), .val (.ref b15), .unset, .unset, .unset, .unset] [])
        exact J17 _ _ _ (3 : Int32) (.int 2) (.int 1) (.int 0) (.double (FP.i2d p2)) (.double (FP.i2d p3)) (.double (FP.i2d p4)) (.double (FP.i2d p5)) (.double (FP.i2d p6)) (.double (FP.i2d (p5 ^^^ p6))) (ownWider X339 (by decide) (by decide)) e339 NF Z0 E_b15 F_b15_nodes F_b15_seconds F_b15_metres F_b15_position F_b15_size V_tn_16 V_ts_16 V_tm_16 V_tp_16 
      · skip
        obtain ⟨cq371, kq371, q371a, q371b, q371c⟩ := isOf hZ e293 E_b15
        obtain ⟨_, _, ⟨T371, L371, k371, n371⟩, -, X371, ⟨Lc371, hQ371, l371, y371, z371⟩, st371⟩ := X293.virtualBack hx (y := (⟨"com/example/tandemcab/tandemcab/NodeQueue", "offer", "(IDD)V"⟩ : MethodName)) (z := (⟨"com/example/tandemcab/tandemcab/NodeQueue", "offer", "(IDD)V"⟩ : MethodName)) hown (mvT hZ (w_32 hw)) (mvT hZ (w_33 hw)) (notFace_of_selects (args := #[]) (mvT hZ (w_35 hw))) (mvT hZ (w_35 hw)) (mvT hZ (w_34 hw)) (by decide) (backOf (W := 0) (rm5t35 l Z a0 hw [] b15 (FP.i2d p4) (FP.i2d (p5 ^^^ p6)) tn_16 ts_16 tm_16 tp_16 kn_16 ks_16 km_16 kp_16 (.int 1) (.int 0) (FP.i2d p2) (.double (FP.i2d p3)) (.double 0) (FP.i2d p5) (.double (FP.i2d p6)) (.double 0) (.int 2) (.int 1) h293 n0 Z0 E_b15 F_b15_nodes F_b15_seconds F_b15_metres F_b15_position F_b15_size V_tn_16 V_ts_16 V_tm_16 V_tp_16 g_b15 g_tn_16 g_ts_16 g_tm_16 g_tp_16 ne_b15_tn_16 ne_b15_ts_16 ne_b15_tm_16 ne_b15_tp_16 ne_tn_16_ts_16 ne_tn_16_tm_16 ne_tn_16_tp_16 ne_ts_16_tm_16 ne_ts_16_tp_16 ne_tm_16_tp_16 hc294) hZ (w_36 hw) (w_2 hw) (by decide) (by decide)) q371a q371c (g := (mkF m 66 #[.val (.int p1), .val (.int p2), .val (.int p3), .val (.int p4), .val (.int p5), .val (.int p6), .val (.int 3), .val (.ref b15), .unset, .unset, .unset, .unset] [(.double (FP.i2d (p5 ^^^ p6))), (.double (FP.i2d p4)), (.int 0), (.ref b15)])) rfl (by rw [hml]; rfl) (Steps.refl _) (argsL := [(.int 0), (.double (FP.i2d p4)), (.double (FP.i2d (p5 ^^^ p6)))]) (rest := []) (lenOf pd_3 rfl) rfl (by show 2 * 0 + _ ≤ _; exact Nat.le_of_eq rfl) (hb hby at_66) (fun _ _ => ⟨rfl, e293, (by decide : 5 + 0 ≤ _), (by decide : 17 + 0 ≤ _)⟩)
        dsimp only [Pt.U, Pt.locs, Pt.cells, Pt.slots] at X371 l371 y371 z371 st371 hQ371
        subst l371 y371 z371
        obtain ⟨rfl, Nq371, Kq371, nF371_b15_nodes, nF371_b15_seconds, nF371_b15_metres, nF371_b15_position, nF371_b15_size, nA371_tn_16, nA371_ts_16, nA371_tm_16, nA371_tp_16⟩ := hQ371
        replace NF := Fr.app NF Nq371
        clear Nq371
        refine WP.tr st371 ?_
        clear st371
        obtain ⟨h371, e371⟩ : ∃ h, T371.heap = h := ⟨_, rfl⟩
        rw [e371] at Kq371 nF371_b15_nodes nF371_b15_seconds nF371_b15_metres nF371_b15_position nF371_b15_size nA371_tn_16 nA371_ts_16 nA371_tm_16 nA371_tp_16
        replace E_b15 := E_b15.keep Kq371
        clear F_b15_nodes
        clear F_b15_seconds
        clear F_b15_metres
        clear F_b15_position
        clear F_b15_size
        clear V_tn_16
        clear V_ts_16
        clear V_tm_16
        clear V_tp_16
        replace Z0 := Nat.le_trans Z0 Kq371.1
        clear Kq371
        have F_b15_nodes := nF371_b15_nodes
        clear nF371_b15_nodes
        have F_b15_seconds := nF371_b15_seconds
        clear nF371_b15_seconds
        have F_b15_metres := nF371_b15_metres
        clear nF371_b15_metres
        have F_b15_position := nF371_b15_position
        clear nF371_b15_position
        have F_b15_size := nF371_b15_size
        clear nF371_b15_size
        have V_tn_16 := nA371_tn_16
        clear nA371_tn_16
        have V_ts_16 := nA371_ts_16
        clear nA371_ts_16
        have V_tm_16 := nA371_tm_16
        clear nA371_tm_16
        have V_tp_16 := nA371_tp_16
        clear nA371_tp_16
        show WP p.tables e below _ T371 (mkF m 69 #[.val (.int p1), .val (.int p2), .val (.int p3), .val (.int p4), .val (.int p5), .val (.int p6), .val (.int 3), .val (.ref b15), .unset, .unset, .unset, .unset] [])
        refine WP.st (T' := T371) (f' := (mkF m 71 #[.val (.int p1), .val (.int p2), .val (.int p3), .val (.int p4), .val (.int p5), .val (.int p6), .val (.int 3), .val (.ref b15), .unset, .unset, .unset, .unset] [(.ref b15)])) (fun t k => ?_) ?_
        · refine XS.aload X371.here hx rfl (hb hby at_69) rfl rfl ?_
          exact k
        obtain ⟨cq392, kq392, q392a, q392b, q392c⟩ := isOf hZ e371 E_b15
        obtain ⟨_, _, ⟨T392, L392, k392, n392⟩, -, X392, ⟨Lc392, hQ392, l392, y392, z392⟩, st392⟩ := X371.virtualBack hx (y := (⟨"com/example/tandemcab/tandemcab/NodeQueue", "clear", "()V"⟩ : MethodName)) (z := (⟨"com/example/tandemcab/tandemcab/NodeQueue", "clear", "()V"⟩ : MethodName)) hown (mvT hZ (w_19 hw)) (mvT hZ (w_20 hw)) (notFace_of_selects (args := #[]) (mvT hZ (w_22 hw))) (mvT hZ (w_22 hw)) (mvT hZ (w_21 hw)) (by decide) (backOf (W := 0) (rm3t39 l Z a0 hw [] b15 tn_16 ts_16 tm_16 tp_16 kn_16 ks_16 km_16 kp_16 (.double (FP.i2d p4)) (.double (FP.i2d p3)) (.double (FP.i2d p2)) (.double (FP.i2d (p5 ^^^ p6))) (.double (FP.i2d p6)) (.double (FP.i2d p5)) (.int 1) (.int 2) (.int 3) h371 n0 Z0 E_b15 F_b15_nodes F_b15_seconds F_b15_metres F_b15_position F_b15_size V_tn_16 V_ts_16 V_tm_16 V_tp_16 g_b15 g_tn_16 g_ts_16 g_tm_16 g_tp_16 ne_b15_tn_16 ne_b15_ts_16 ne_b15_tm_16 ne_b15_tp_16 ne_tn_16_ts_16 ne_tn_16_tm_16 ne_tn_16_tp_16 ne_ts_16_tm_16 ne_ts_16_tp_16 ne_tm_16_tp_16) hZ (w_23 hw) (w_2 hw) (by decide) (by decide)) q392a q392c (g := (mkF m 71 #[.val (.int p1), .val (.int p2), .val (.int p3), .val (.int p4), .val (.int p5), .val (.int p6), .val (.int 3), .val (.ref b15), .unset, .unset, .unset, .unset] [(.ref b15)])) rfl (by rw [hml]; rfl) (Steps.refl _) (argsL := []) (rest := []) (lenOf pd_7 rfl) rfl (by show 2 * 0 + _ ≤ _; exact Nat.le_of_eq rfl) (hb hby at_71) (fun _ _ => ⟨rfl, e371, (by decide : 5 + 0 ≤ _), (by decide : 17 + 0 ≤ _)⟩)
        dsimp only [Pt.U, Pt.locs, Pt.cells, Pt.slots] at X392 l392 y392 z392 st392 hQ392
        subst l392 y392 z392
        obtain ⟨rfl, Nq392, Kq392, nF392_b15_nodes, nF392_b15_seconds, nF392_b15_metres, nF392_b15_position, nF392_b15_size, nA392_tn_16, nA392_ts_16, nA392_tm_16, nA392_tp_16⟩ := hQ392
        replace NF := Fr.app NF Nq392
        clear Nq392
        refine WP.tr st392 ?_
        clear st392
        obtain ⟨h392, e392⟩ : ∃ h, T392.heap = h := ⟨_, rfl⟩
        rw [e392] at Kq392 nF392_b15_nodes nF392_b15_seconds nF392_b15_metres nF392_b15_position nF392_b15_size nA392_tn_16 nA392_ts_16 nA392_tm_16 nA392_tp_16
        replace E_b15 := E_b15.keep Kq392
        clear F_b15_nodes
        clear F_b15_seconds
        clear F_b15_metres
        clear F_b15_position
        clear F_b15_size
        clear V_tn_16
        clear V_ts_16
        clear V_tm_16
        clear V_tp_16
        replace Z0 := Nat.le_trans Z0 Kq392.1
        clear Kq392
        have F_b15_nodes := nF392_b15_nodes
        clear nF392_b15_nodes
        have F_b15_seconds := nF392_b15_seconds
        clear nF392_b15_seconds
        have F_b15_metres := nF392_b15_metres
        clear nF392_b15_metres
        have F_b15_position := nF392_b15_position
        clear nF392_b15_position
        have F_b15_size := nF392_b15_size
        clear nF392_b15_size
        have V_tn_16 := nA392_tn_16
        clear nA392_tn_16
        have V_ts_16 := nA392_ts_16
        clear nA392_ts_16
        have V_tm_16 := nA392_tm_16
        clear nA392_tm_16
        have V_tp_16 := nA392_tp_16
        clear nA392_tp_16
        show WP p.tables e below _ T392 (mkF m 74 #[.val (.int p1), .val (.int p2), .val (.int p3), .val (.int p4), .val (.int p5), .val (.int p6), .val (.int 3), .val (.ref b15), .unset, .unset, .unset, .unset] [])
        exact J17 _ _ _ (3 : Int32) (.int 0) (.int 1) (.int 2) (.double (FP.i2d p4)) (.double (FP.i2d p3)) (.double (FP.i2d p2)) (.double (FP.i2d (p5 ^^^ p6))) (.double (FP.i2d p6)) (.double (FP.i2d p5)) (ownWider X392 (by decide) (by decide)) e392 NF Z0 E_b15 F_b15_nodes F_b15_seconds F_b15_metres F_b15_position F_b15_size V_tn_16 V_ts_16 V_tm_16 V_tp_16 
    · skip
      obtain ⟨cq393, kq393, q393a, q393b, q393c⟩ := isOf hZ e291 E_b15
      obtain ⟨_, _, ⟨T393, L393, k393, n393⟩, -, X393, ⟨Lc393, hQ393, l393, y393, z393⟩, st393⟩ := X291.virtualBack hx (y := (⟨"com/example/tandemcab/tandemcab/NodeQueue", "offer", "(IDD)V"⟩ : MethodName)) (z := (⟨"com/example/tandemcab/tandemcab/NodeQueue", "offer", "(IDD)V"⟩ : MethodName)) hown (mvT hZ (w_32 hw)) (mvT hZ (w_33 hw)) (notFace_of_selects (args := #[]) (mvT hZ (w_35 hw))) (mvT hZ (w_35 hw)) (mvT hZ (w_34 hw)) (by decide) (backOf (W := 0) (rm5t26 l Z a0 hw [] b15 (FP.i2d p3) (FP.i2d p6) tn_16 ts_16 tm_16 tp_16 kn_16 ks_16 km_16 kp_16 (.int 0) (.int 0) (FP.i2d p2) (.double 0) (.double 0) (FP.i2d p5) (.double 0) (.double 0) (.int 0) (.int 1) h291 n0 Z0 E_b15 F_b15_nodes F_b15_seconds F_b15_metres F_b15_position F_b15_size V_tn_16 V_ts_16 V_tm_16 V_tp_16 g_b15 g_tn_16 g_ts_16 g_tm_16 g_tp_16 ne_b15_tn_16 ne_b15_ts_16 ne_b15_tm_16 ne_b15_tp_16 ne_tn_16_ts_16 ne_tn_16_tm_16 ne_tn_16_tp_16 ne_ts_16_tm_16 ne_ts_16_tp_16 ne_tm_16_tp_16 hc292) hZ (w_36 hw) (w_2 hw) (by decide) (by decide)) q393a q393c (g := (mkF m 46 #[.val (.int p1), .val (.int p2), .val (.int p3), .val (.int p4), .val (.int p5), .val (.int p6), .val (.int 3), .val (.ref b15), .unset, .unset, .unset, .unset] [(.double (FP.i2d p6)), (.double (FP.i2d p3)), (.int 1), (.ref b15)])) rfl (by rw [hml]; rfl) (Steps.refl _) (argsL := [(.int 1), (.double (FP.i2d p3)), (.double (FP.i2d p6))]) (rest := []) (lenOf pd_3 rfl) rfl (by show 2 * 0 + _ ≤ _; exact Nat.le_of_eq rfl) (hb hby at_46) (fun _ _ => ⟨rfl, e291, (by decide : 5 + 0 ≤ _), (by decide : 17 + 0 ≤ _)⟩)
      dsimp only [Pt.U, Pt.locs, Pt.cells, Pt.slots] at X393 l393 y393 z393 st393 hQ393
      subst l393 y393 z393
      obtain ⟨rfl, Nq393, Kq393, nF393_b15_nodes, nF393_b15_seconds, nF393_b15_metres, nF393_b15_position, nF393_b15_size, nA393_tn_16, nA393_ts_16, nA393_tm_16, nA393_tp_16⟩ := hQ393
      replace NF := Fr.app NF Nq393
      clear Nq393
      refine WP.tr st393 ?_
      clear st393
      obtain ⟨h393, e393⟩ : ∃ h, T393.heap = h := ⟨_, rfl⟩
      rw [e393] at Kq393 nF393_b15_nodes nF393_b15_seconds nF393_b15_metres nF393_b15_position nF393_b15_size nA393_tn_16 nA393_ts_16 nA393_tm_16 nA393_tp_16
      replace E_b15 := E_b15.keep Kq393
      clear F_b15_nodes
      clear F_b15_seconds
      clear F_b15_metres
      clear F_b15_position
      clear F_b15_size
      clear V_tn_16
      clear V_ts_16
      clear V_tm_16
      clear V_tp_16
      replace Z0 := Nat.le_trans Z0 Kq393.1
      clear Kq393
      have F_b15_nodes := nF393_b15_nodes
      clear nF393_b15_nodes
      have F_b15_seconds := nF393_b15_seconds
      clear nF393_b15_seconds
      have F_b15_metres := nF393_b15_metres
      clear nF393_b15_metres
      have F_b15_position := nF393_b15_position
      clear nF393_b15_position
      have F_b15_size := nF393_b15_size
      clear nF393_b15_size
      have V_tn_16 := nA393_tn_16
      clear nA393_tn_16
      have V_ts_16 := nA393_ts_16
      clear nA393_ts_16
      have V_tm_16 := nA393_tm_16
      clear nA393_tm_16
      have V_tp_16 := nA393_tp_16
      clear nA393_tp_16
      show WP p.tables e below _ T393 (mkF m 49 #[.val (.int p1), .val (.int p2), .val (.int p3), .val (.int p4), .val (.int p5), .val (.int p6), .val (.int 3), .val (.ref b15), .unset, .unset, .unset, .unset] [])
      refine WP.st (T' := T393) (f' := (mkF m 66 #[.val (.int p1), .val (.int p2), .val (.int p3), .val (.int p4), .val (.int p5), .val (.int p6), .val (.int 3), .val (.ref b15), .unset, .unset, .unset, .unset] [(.double (FP.i2d (p5 ^^^ p6))), (.double (FP.i2d p4)), (.int 0), (.ref b15)])) (fun t k => ?_) ?_
      · refine XS.iload X393.here hx rfl (hb hby at_49) rfl ?_
        refine XS.iconst X393.here hx rfl (hb hby at_51) ?_
        refine XS.icmpNo X393.here hx rfl (hb hby at_52) rfl (flt (by decide : ¬ ((3 : Int32) < (3 : Int32)))).1 ?_
        refine XS.aload X393.here hx rfl (hb hby at_55) rfl rfl ?_
        refine XS.iconst X393.here hx rfl (hb hby at_57) ?_
        refine XS.iloadN X393.here hx rfl (hb hby at_58) rfl ?_
        refine XS.i2dS X393.here hx rfl (hb hby at_59) rfl rfl ?_
        refine XS.iload X393.here hx rfl (hb hby at_60) rfl ?_
        show Steps p.tables e below (T393.setTop (mkF m 62 #[.val (.int p1), .val (.int p2), .val (.int p3), .val (.int p4), .val (.int p5), .val (.int p6), .val (.int 3), .val (.ref b15), .unset, .unset, .unset, .unset] [(.int p5), (.double (FP.i2d p4)), (.int 0), (.ref b15)])) t
        refine XS.iload X393.here hx rfl (hb hby at_62) rfl ?_
        refine XS.ixor X393.here hx rfl (hb hby at_64) rfl ?_
        refine XS.i2dS X393.here hx rfl (hb hby at_65) rfl rfl ?_
        exact k
      by_cases hc394 : (own_before (FP.i2d p4) (FP.i2d (p5 ^^^ p6)) (FP.i2d p3) (FP.i2d p6)) = (0 : Int32)
      · skip
        obtain ⟨cq406, kq406, q406a, q406b, q406c⟩ := isOf hZ e393 E_b15
        obtain ⟨_, _, ⟨T406, L406, k406, n406⟩, -, X406, ⟨Lc406, hQ406, l406, y406, z406⟩, st406⟩ := X393.virtualBack hx (y := (⟨"com/example/tandemcab/tandemcab/NodeQueue", "offer", "(IDD)V"⟩ : MethodName)) (z := (⟨"com/example/tandemcab/tandemcab/NodeQueue", "offer", "(IDD)V"⟩ : MethodName)) hown (mvT hZ (w_32 hw)) (mvT hZ (w_33 hw)) (notFace_of_selects (args := #[]) (mvT hZ (w_35 hw))) (mvT hZ (w_35 hw)) (mvT hZ (w_34 hw)) (by decide) (backOf (W := 0) (rm5t40 l Z a0 hw [] b15 (FP.i2d p4) (FP.i2d (p5 ^^^ p6)) tn_16 ts_16 tm_16 tp_16 kn_16 ks_16 km_16 kp_16 (.int 2) (.int 0) (FP.i2d p3) (.double (FP.i2d p2)) (.double 0) (FP.i2d p6) (.double (FP.i2d p5)) (.double 0) (.int 1) (.int 2) h393 n0 Z0 E_b15 F_b15_nodes F_b15_seconds F_b15_metres F_b15_position F_b15_size V_tn_16 V_ts_16 V_tm_16 V_tp_16 g_b15 g_tn_16 g_ts_16 g_tm_16 g_tp_16 ne_b15_tn_16 ne_b15_ts_16 ne_b15_tm_16 ne_b15_tp_16 ne_tn_16_ts_16 ne_tn_16_tm_16 ne_tn_16_tp_16 ne_ts_16_tm_16 ne_ts_16_tp_16 ne_tm_16_tp_16 hc394) hZ (w_36 hw) (w_2 hw) (by decide) (by decide)) q406a q406c (g := (mkF m 66 #[.val (.int p1), .val (.int p2), .val (.int p3), .val (.int p4), .val (.int p5), .val (.int p6), .val (.int 3), .val (.ref b15), .unset, .unset, .unset, .unset] [(.double (FP.i2d (p5 ^^^ p6))), (.double (FP.i2d p4)), (.int 0), (.ref b15)])) rfl (by rw [hml]; rfl) (Steps.refl _) (argsL := [(.int 0), (.double (FP.i2d p4)), (.double (FP.i2d (p5 ^^^ p6)))]) (rest := []) (lenOf pd_3 rfl) rfl (by show 2 * 0 + _ ≤ _; exact Nat.le_of_eq rfl) (hb hby at_66) (fun _ _ => ⟨rfl, e393, (by decide : 5 + 0 ≤ _), (by decide : 17 + 0 ≤ _)⟩)
        dsimp only [Pt.U, Pt.locs, Pt.cells, Pt.slots] at X406 l406 y406 z406 st406 hQ406
        subst l406 y406 z406
        obtain ⟨rfl, Nq406, Kq406, nF406_b15_nodes, nF406_b15_seconds, nF406_b15_metres, nF406_b15_position, nF406_b15_size, nA406_tn_16, nA406_ts_16, nA406_tm_16, nA406_tp_16⟩ := hQ406
        replace NF := Fr.app NF Nq406
        clear Nq406
        refine WP.tr st406 ?_
        clear st406
        obtain ⟨h406, e406⟩ : ∃ h, T406.heap = h := ⟨_, rfl⟩
        rw [e406] at Kq406 nF406_b15_nodes nF406_b15_seconds nF406_b15_metres nF406_b15_position nF406_b15_size nA406_tn_16 nA406_ts_16 nA406_tm_16 nA406_tp_16
        replace E_b15 := E_b15.keep Kq406
        clear F_b15_nodes
        clear F_b15_seconds
        clear F_b15_metres
        clear F_b15_position
        clear F_b15_size
        clear V_tn_16
        clear V_ts_16
        clear V_tm_16
        clear V_tp_16
        replace Z0 := Nat.le_trans Z0 Kq406.1
        clear Kq406
        have F_b15_nodes := nF406_b15_nodes
        clear nF406_b15_nodes
        have F_b15_seconds := nF406_b15_seconds
        clear nF406_b15_seconds
        have F_b15_metres := nF406_b15_metres
        clear nF406_b15_metres
        have F_b15_position := nF406_b15_position
        clear nF406_b15_position
        have F_b15_size := nF406_b15_size
        clear nF406_b15_size
        have V_tn_16 := nA406_tn_16
        clear nA406_tn_16
        have V_ts_16 := nA406_ts_16
        clear nA406_ts_16
        have V_tm_16 := nA406_tm_16
        clear nA406_tm_16
        have V_tp_16 := nA406_tp_16
        clear nA406_tp_16
        show WP p.tables e below _ T406 (mkF m 69 #[.val (.int p1), .val (.int p2), .val (.int p3), .val (.int p4), .val (.int p5), .val (.int p6), .val (.int 3), .val (.ref b15), .unset, .unset, .unset, .unset] [])
        refine WP.st (T' := T406) (f' := (mkF m 71 #[.val (.int p1), .val (.int p2), .val (.int p3), .val (.int p4), .val (.int p5), .val (.int p6), .val (.int 3), .val (.ref b15), .unset, .unset, .unset, .unset] [(.ref b15)])) (fun t k => ?_) ?_
        · refine XS.aload X406.here hx rfl (hb hby at_69) rfl rfl ?_
          exact k
        obtain ⟨cq427, kq427, q427a, q427b, q427c⟩ := isOf hZ e406 E_b15
        obtain ⟨_, _, ⟨T427, L427, k427, n427⟩, -, X427, ⟨Lc427, hQ427, l427, y427, z427⟩, st427⟩ := X406.virtualBack hx (y := (⟨"com/example/tandemcab/tandemcab/NodeQueue", "clear", "()V"⟩ : MethodName)) (z := (⟨"com/example/tandemcab/tandemcab/NodeQueue", "clear", "()V"⟩ : MethodName)) hown (mvT hZ (w_19 hw)) (mvT hZ (w_20 hw)) (notFace_of_selects (args := #[]) (mvT hZ (w_22 hw))) (mvT hZ (w_22 hw)) (mvT hZ (w_21 hw)) (by decide) (backOf (W := 0) (rm3t42 l Z a0 hw [] b15 tn_16 ts_16 tm_16 tp_16 kn_16 ks_16 km_16 kp_16 (.double (FP.i2d p3)) (.double (FP.i2d p2)) (.double (FP.i2d p4)) (.double (FP.i2d p6)) (.double (FP.i2d p5)) (.double (FP.i2d (p5 ^^^ p6))) (.int 3) (.int 1) (.int 2) h406 n0 Z0 E_b15 F_b15_nodes F_b15_seconds F_b15_metres F_b15_position F_b15_size V_tn_16 V_ts_16 V_tm_16 V_tp_16 g_b15 g_tn_16 g_ts_16 g_tm_16 g_tp_16 ne_b15_tn_16 ne_b15_ts_16 ne_b15_tm_16 ne_b15_tp_16 ne_tn_16_ts_16 ne_tn_16_tm_16 ne_tn_16_tp_16 ne_ts_16_tm_16 ne_ts_16_tp_16 ne_tm_16_tp_16) hZ (w_23 hw) (w_2 hw) (by decide) (by decide)) q427a q427c (g := (mkF m 71 #[.val (.int p1), .val (.int p2), .val (.int p3), .val (.int p4), .val (.int p5), .val (.int p6), .val (.int 3), .val (.ref b15), .unset, .unset, .unset, .unset] [(.ref b15)])) rfl (by rw [hml]; rfl) (Steps.refl _) (argsL := []) (rest := []) (lenOf pd_7 rfl) rfl (by show 2 * 0 + _ ≤ _; exact Nat.le_of_eq rfl) (hb hby at_71) (fun _ _ => ⟨rfl, e406, (by decide : 5 + 0 ≤ _), (by decide : 17 + 0 ≤ _)⟩)
        dsimp only [Pt.U, Pt.locs, Pt.cells, Pt.slots] at X427 l427 y427 z427 st427 hQ427
        subst l427 y427 z427
        obtain ⟨rfl, Nq427, Kq427, nF427_b15_nodes, nF427_b15_seconds, nF427_b15_metres, nF427_b15_position, nF427_b15_size, nA427_tn_16, nA427_ts_16, nA427_tm_16, nA427_tp_16⟩ := hQ427
        replace NF := Fr.app NF Nq427
        clear Nq427
        refine WP.tr st427 ?_
        clear st427
        obtain ⟨h427, e427⟩ : ∃ h, T427.heap = h := ⟨_, rfl⟩
        rw [e427] at Kq427 nF427_b15_nodes nF427_b15_seconds nF427_b15_metres nF427_b15_position nF427_b15_size nA427_tn_16 nA427_ts_16 nA427_tm_16 nA427_tp_16
        replace E_b15 := E_b15.keep Kq427
        clear F_b15_nodes
        clear F_b15_seconds
        clear F_b15_metres
        clear F_b15_position
        clear F_b15_size
        clear V_tn_16
        clear V_ts_16
        clear V_tm_16
        clear V_tp_16
        replace Z0 := Nat.le_trans Z0 Kq427.1
        clear Kq427
        have F_b15_nodes := nF427_b15_nodes
        clear nF427_b15_nodes
        have F_b15_seconds := nF427_b15_seconds
        clear nF427_b15_seconds
        have F_b15_metres := nF427_b15_metres
        clear nF427_b15_metres
        have F_b15_position := nF427_b15_position
        clear nF427_b15_position
        have F_b15_size := nF427_b15_size
        clear nF427_b15_size
        have V_tn_16 := nA427_tn_16
        clear nA427_tn_16
        have V_ts_16 := nA427_ts_16
        clear nA427_ts_16
        have V_tm_16 := nA427_tm_16
        clear nA427_tm_16
        have V_tp_16 := nA427_tp_16
        clear nA427_tp_16
        show WP p.tables e below _ T427 (mkF m 74 #[.val (.int p1), .val (.int p2), .val (.int p3), .val (.int p4), .val (.int p5), .val (.int p6), .val (.int 3), .val (.ref b15), .unset, .unset, .unset, .unset] [])
        exact J17 _ _ _ (3 : Int32) (.int 1) (.int 2) (.int 0) (.double (FP.i2d p3)) (.double (FP.i2d p2)) (.double (FP.i2d p4)) (.double (FP.i2d p6)) (.double (FP.i2d p5)) (.double (FP.i2d (p5 ^^^ p6))) (ownWider X427 (by decide) (by decide)) e427 NF Z0 E_b15 F_b15_nodes F_b15_seconds F_b15_metres F_b15_position F_b15_size V_tn_16 V_ts_16 V_tm_16 V_tp_16 
      · skip
        obtain ⟨cq440, kq440, q440a, q440b, q440c⟩ := isOf hZ e393 E_b15
        obtain ⟨_, _, ⟨T440, L440, k440, n440⟩, -, X440, ⟨Lc440, hQ440, l440, y440, z440⟩, st440⟩ := X393.virtualBack hx (y := (⟨"com/example/tandemcab/tandemcab/NodeQueue", "offer", "(IDD)V"⟩ : MethodName)) (z := (⟨"com/example/tandemcab/tandemcab/NodeQueue", "offer", "(IDD)V"⟩ : MethodName)) hown (mvT hZ (w_32 hw)) (mvT hZ (w_33 hw)) (notFace_of_selects (args := #[]) (mvT hZ (w_35 hw))) (mvT hZ (w_35 hw)) (mvT hZ (w_34 hw)) (by decide) (backOf (W := 0) (rm5t43 l Z a0 hw [] b15 (FP.i2d p4) (FP.i2d (p5 ^^^ p6)) tn_16 ts_16 tm_16 tp_16 kn_16 ks_16 km_16 kp_16 (.int 2) (.int 0) (FP.i2d p3) (.double (FP.i2d p2)) (.double 0) (FP.i2d p6) (.double (FP.i2d p5)) (.double 0) (.int 1) (.int 2) h393 n0 Z0 E_b15 F_b15_nodes F_b15_seconds F_b15_metres F_b15_position F_b15_size V_tn_16 V_ts_16 V_tm_16 V_tp_16 g_b15 g_tn_16 g_ts_16 g_tm_16 g_tp_16 ne_b15_tn_16 ne_b15_ts_16 ne_b15_tm_16 ne_b15_tp_16 ne_tn_16_ts_16 ne_tn_16_tm_16 ne_tn_16_tp_16 ne_ts_16_tm_16 ne_ts_16_tp_16 ne_tm_16_tp_16 hc394) hZ (w_36 hw) (w_2 hw) (by decide) (by decide)) q440a q440c (g := (mkF m 66 #[.val (.int p1), .val (.int p2), .val (.int p3), .val (.int p4), .val (.int p5), .val (.int p6), .val (.int 3), .val (.ref b15), .unset, .unset, .unset, .unset] [(.double (FP.i2d (p5 ^^^ p6))), (.double (FP.i2d p4)), (.int 0), (.ref b15)])) rfl (by rw [hml]; rfl) (Steps.refl _) (argsL := [(.int 0), (.double (FP.i2d p4)), (.double (FP.i2d (p5 ^^^ p6)))]) (rest := []) (lenOf pd_3 rfl) rfl (by show 2 * 0 + _ ≤ _; exact Nat.le_of_eq rfl) (hb hby at_66) (fun _ _ => ⟨rfl, e393, (by decide : 5 + 0 ≤ _), (by decide : 17 + 0 ≤ _)⟩)
        dsimp only [Pt.U, Pt.locs, Pt.cells, Pt.slots] at X440 l440 y440 z440 st440 hQ440
        subst l440 y440 z440
        obtain ⟨rfl, Nq440, Kq440, nF440_b15_nodes, nF440_b15_seconds, nF440_b15_metres, nF440_b15_position, nF440_b15_size, nA440_tn_16, nA440_ts_16, nA440_tm_16, nA440_tp_16⟩ := hQ440
        replace NF := Fr.app NF Nq440
        clear Nq440
        refine WP.tr st440 ?_
        clear st440
        obtain ⟨h440, e440⟩ : ∃ h, T440.heap = h := ⟨_, rfl⟩
        rw [e440] at Kq440 nF440_b15_nodes nF440_b15_seconds nF440_b15_metres nF440_b15_position nF440_b15_size nA440_tn_16 nA440_ts_16 nA440_tm_16 nA440_tp_16
        replace E_b15 := E_b15.keep Kq440
        clear F_b15_nodes
        clear F_b15_seconds
        clear F_b15_metres
        clear F_b15_position
        clear F_b15_size
        clear V_tn_16
        clear V_ts_16
        clear V_tm_16
        clear V_tp_16
        replace Z0 := Nat.le_trans Z0 Kq440.1
        clear Kq440
        have F_b15_nodes := nF440_b15_nodes
        clear nF440_b15_nodes
        have F_b15_seconds := nF440_b15_seconds
        clear nF440_b15_seconds
        have F_b15_metres := nF440_b15_metres
        clear nF440_b15_metres
        have F_b15_position := nF440_b15_position
        clear nF440_b15_position
        have F_b15_size := nF440_b15_size
        clear nF440_b15_size
        have V_tn_16 := nA440_tn_16
        clear nA440_tn_16
        have V_ts_16 := nA440_ts_16
        clear nA440_ts_16
        have V_tm_16 := nA440_tm_16
        clear nA440_tm_16
        have V_tp_16 := nA440_tp_16
        clear nA440_tp_16
        show WP p.tables e below _ T440 (mkF m 69 #[.val (.int p1), .val (.int p2), .val (.int p3), .val (.int p4), .val (.int p5), .val (.int p6), .val (.int 3), .val (.ref b15), .unset, .unset, .unset, .unset] [])
        refine WP.st (T' := T440) (f' := (mkF m 71 #[.val (.int p1), .val (.int p2), .val (.int p3), .val (.int p4), .val (.int p5), .val (.int p6), .val (.int 3), .val (.ref b15), .unset, .unset, .unset, .unset] [(.ref b15)])) (fun t k => ?_) ?_
        · refine XS.aload X440.here hx rfl (hb hby at_69) rfl rfl ?_
          exact k
        obtain ⟨cq461, kq461, q461a, q461b, q461c⟩ := isOf hZ e440 E_b15
        obtain ⟨_, _, ⟨T461, L461, k461, n461⟩, -, X461, ⟨Lc461, hQ461, l461, y461, z461⟩, st461⟩ := X440.virtualBack hx (y := (⟨"com/example/tandemcab/tandemcab/NodeQueue", "clear", "()V"⟩ : MethodName)) (z := (⟨"com/example/tandemcab/tandemcab/NodeQueue", "clear", "()V"⟩ : MethodName)) hown (mvT hZ (w_19 hw)) (mvT hZ (w_20 hw)) (notFace_of_selects (args := #[]) (mvT hZ (w_22 hw))) (mvT hZ (w_22 hw)) (mvT hZ (w_21 hw)) (by decide) (backOf (W := 0) (rm3t45 l Z a0 hw [] b15 tn_16 ts_16 tm_16 tp_16 kn_16 ks_16 km_16 kp_16 (.double (FP.i2d p4)) (.double (FP.i2d p2)) (.double (FP.i2d p3)) (.double (FP.i2d (p5 ^^^ p6))) (.double (FP.i2d p5)) (.double (FP.i2d p6)) (.int 1) (.int 3) (.int 2) h440 n0 Z0 E_b15 F_b15_nodes F_b15_seconds F_b15_metres F_b15_position F_b15_size V_tn_16 V_ts_16 V_tm_16 V_tp_16 g_b15 g_tn_16 g_ts_16 g_tm_16 g_tp_16 ne_b15_tn_16 ne_b15_ts_16 ne_b15_tm_16 ne_b15_tp_16 ne_tn_16_ts_16 ne_tn_16_tm_16 ne_tn_16_tp_16 ne_ts_16_tm_16 ne_ts_16_tp_16 ne_tm_16_tp_16) hZ (w_23 hw) (w_2 hw) (by decide) (by decide)) q461a q461c (g := (mkF m 71 #[.val (.int p1), .val (.int p2), .val (.int p3), .val (.int p4), .val (.int p5), .val (.int p6), .val (.int 3), .val (.ref b15), .unset, .unset, .unset, .unset] [(.ref b15)])) rfl (by rw [hml]; rfl) (Steps.refl _) (argsL := []) (rest := []) (lenOf pd_7 rfl) rfl (by show 2 * 0 + _ ≤ _; exact Nat.le_of_eq rfl) (hb hby at_71) (fun _ _ => ⟨rfl, e440, (by decide : 5 + 0 ≤ _), (by decide : 17 + 0 ≤ _)⟩)
        dsimp only [Pt.U, Pt.locs, Pt.cells, Pt.slots] at X461 l461 y461 z461 st461 hQ461
        subst l461 y461 z461
        obtain ⟨rfl, Nq461, Kq461, nF461_b15_nodes, nF461_b15_seconds, nF461_b15_metres, nF461_b15_position, nF461_b15_size, nA461_tn_16, nA461_ts_16, nA461_tm_16, nA461_tp_16⟩ := hQ461
        replace NF := Fr.app NF Nq461
        clear Nq461
        refine WP.tr st461 ?_
        clear st461
        obtain ⟨h461, e461⟩ : ∃ h, T461.heap = h := ⟨_, rfl⟩
        rw [e461] at Kq461 nF461_b15_nodes nF461_b15_seconds nF461_b15_metres nF461_b15_position nF461_b15_size nA461_tn_16 nA461_ts_16 nA461_tm_16 nA461_tp_16
        replace E_b15 := E_b15.keep Kq461
        clear F_b15_nodes
        clear F_b15_seconds
        clear F_b15_metres
        clear F_b15_position
        clear F_b15_size
        clear V_tn_16
        clear V_ts_16
        clear V_tm_16
        clear V_tp_16
        replace Z0 := Nat.le_trans Z0 Kq461.1
        clear Kq461
        have F_b15_nodes := nF461_b15_nodes
        clear nF461_b15_nodes
        have F_b15_seconds := nF461_b15_seconds
        clear nF461_b15_seconds
        have F_b15_metres := nF461_b15_metres
        clear nF461_b15_metres
        have F_b15_position := nF461_b15_position
        clear nF461_b15_position
        have F_b15_size := nF461_b15_size
        clear nF461_b15_size
        have V_tn_16 := nA461_tn_16
        clear nA461_tn_16
        have V_ts_16 := nA461_ts_16
        clear nA461_ts_16
        have V_tm_16 := nA461_tm_16
        clear nA461_tm_16
        have V_tp_16 := nA461_tp_16
        clear nA461_tp_16
        show WP p.tables e below _ T461 (mkF m 74 #[.val (.int p1), .val (.int p2), .val (.int p3), .val (.int p4), .val (.int p5), .val (.int p6), .val (.int 3), .val (.ref b15), .unset, .unset, .unset, .unset] [])
        exact J17 _ _ _ (3 : Int32) (.int 0) (.int 2) (.int 1) (.double (FP.i2d p4)) (.double (FP.i2d p2)) (.double (FP.i2d p3)) (.double (FP.i2d (p5 ^^^ p6))) (.double (FP.i2d p5)) (.double (FP.i2d p6)) (ownWider X461 (by decide) (by decide)) e461 NF Z0 E_b15 F_b15_nodes F_b15_seconds F_b15_metres F_b15_position F_b15_size V_tn_16 V_ts_16 V_tm_16 V_tp_16 
set_option maxRecDepth 65536 in
set_option maxHeartbeats 40000000 in
theorem comes_1 {Post : Tables → Env → Array Value → State → Outcome → State → Prop} (hpost : ∀ tb e args s v u, (limb_1_1.after args s (.returned v) u = true ∧ limb_1_2.after args s (.returned v) u = true ∧ True) → FrameEnd s (.returned v) u (Jvm.fieldLocs frame_1_writes args s ++ Jvm.arrayLocs frame_1_arrays args s ++ Jvm.staticLocs frame_1_statics s) 24 128 → Post tb e args s (.returned v) u) :
    ArmFor flags0 classFile x code maxLocals ret World_1 tables_1 room_1 Calls_1 rest_1 Pre_1 Post := by
  intro l hfl _ _ p e ha hc hk s m args below hf hA hF happ hP
  obtain ⟨hcalls, hrest, hpre⟩ := hP
  obtain ⟨-, -, -, hnamed, -, -, -, hat⟩ := (Spec.applies_iff hf).mp happ
  obtain ⟨hg, hn⟩ := and_e (Cond.before_iff.mp (show (Jvm.Cond.and given_1 narrow_1).before args s = true from hpre))
  obtain ⟨gg1, gg2⟩ := and_e hg
  obtain ⟨gg3, gg4⟩ := and_e gg2
  obtain ⟨gg5, gg6⟩ := and_e gg4
  obtain ⟨gg7, gg8⟩ := and_e gg6
  obtain ⟨gg9, gg10⟩ := and_e gg8
  obtain ⟨gg11, gg12⟩ := and_e gg10
  obtain ⟨w0, w1, w2, w3, w4, w5, rfl⟩ : ∃ w0 w1 w2 w3 w4 w5 : Value, args = #[w0, w1, w2, w3, w4, w5] := by
    have hs : args.size = 6 := by simpa [Cond.value, given_1] using gg1
    obtain ⟨L⟩ := args
    match L, hs with
    | [w0, w1, w2, w3, w4, w5], _ => exact ⟨w0, w1, w2, w3, w4, w5, rfl⟩
  have hw := fun d (hd : d ∈ tables_1) => atoms_spec (ws := Jvm.Cond.code x code maxLocals ret :: tables_1) hat d (List.mem_cons_of_mem _ hd)
  have hfit : Fit s := fun {y c} hc i hi => by
    obtain ⟨ha, rfl⟩ := Array.getElem?_eq_some_iff.mp hc
    have q := List.all_eq_true.mp ((Array.all_eq_true_iff_forall_mem.mp hF) _ (Array.getElem_mem ha)) i (List.mem_range.mpr hi)
    simpa [Array.getElem?_eq_getElem hi] using q
  obtain ⟨i0, ei0⟩ := is_v gg3
  obtain rfl : w0 = (.int i0) := Option.some.inj ei0
  obtain ⟨i1, ei1⟩ := is_v gg5
  obtain rfl : w1 = (.int i1) := Option.some.inj ei1
  obtain ⟨i2, ei2⟩ := is_v gg7
  obtain rfl : w2 = (.int i2) := Option.some.inj ei2
  obtain ⟨i3, ei3⟩ := is_v gg9
  obtain rfl : w3 = (.int i3) := Option.some.inj ei3
  obtain ⟨i4, ei4⟩ := is_v gg11
  obtain rfl : w4 = (.int i4) := Option.some.inj ei4
  obtain ⟨i5, ei5⟩ := is_v gg12
  obtain rfl : w5 = (.int i5) := Option.some.inj ei5
  obtain ⟨n, o, h1, h2, h3, _, L, rfl, ⟨rfl, N⟩, hq⟩ := rm0 l s _ hw tables_1 i0 i1 i2 i3 i4 i5 s.heap s.heap.size (Nat.le_refl _)  p e ha hc hk s m _ below hf ((Spec.applies_iff_loose hf).mp happ).1 ⟨rfl, State.Warmed39.refl s, rfl⟩ trivial
  refine ⟨n, _, h1, h2, h3, hpost _ _ _ _ _ _ ⟨Cond.after_iff.mpr rfl, Cond.after_iff.mpr (eq_i res_at (Term.int_eval (1)) rfl), trivial⟩ ⟨hq.1, hq.2.1, (hq.2.2.sift fun y hy => Or.inr (N y hy)).mono (by decide) (by decide)⟩⟩
theorem main_1_1 : Claimed_1_1 := comes_1 fun _ _ _ _ _ _ h hF => ⟨h.1, hF⟩
theorem main_1_2 : Claimed_1_2 := comes_1 fun _ _ _ _ _ _ h hF => ⟨h.2.1, hF⟩
end Jvm.Pilot.@@N@@
namespace Jvm.Pilot.@@N@@
open Jvm Jvm.ClassFile Sem Op Lib Jvm.Free Jvm.Stand Jvm.Pilot.@@N@@.Jvm.D
/-! MADE BY PROGRAM (witnessworld.py) out of the Statement's table words and the real class files: 11 classes; the members and pool entries that the words name. The judged class is class 1, her method 1. -/
namespace start1
open Jvm.ClassFile
def u (s : String) : CpInfo := .utf8 (stringToUtf16 s)
/-- a pool by its gaps: so many unusable entries, then the entry; so many at the end -/
def gap : Nat → List CpInfo → List CpInfo
  | 0, r => r
  | n + 1, r => .unusable :: gap n r
def poolList (es : List (Nat × CpInfo)) (last : Nat) : List CpInfo := es.foldr (fun e r => gap e.1 (e.2 :: r)) (gap last [])
def pool (es : List (Nat × CpInfo)) (last : Nat) : Array CpInfo := ⟨poolList es last⟩
def fileOf (pool : Array CpInfo) (this : Nat) (attrs : Array Attribute := #[]) (ms : Array MethodInfo := #[]) (fl : Nat := 33) (sup : Nat := 0) (ifs : Array Nat := #[]) (fds : Array FieldInfo := #[]) : ClassFile where
  minorVersion := 0
  majorVersion := 65
  constantPool := pool
  accessFlags := fl
  thisClass := this
  superClass := sup
  interfaces := ifs
  fields := fds
  methods := ms
  attributes := attrs
def plain (name : String) (sup : Option ClassId) : Class where
  name := name
  kind := .ordinary
  loader := none
  accessFlags := 33
  super := sup
  interfaces := #[]
  cf := none
  fields := #[]
  methods := #[]
  instanceTypes := #[]
  staticTypes := #[]
  resolved := #[]
  callSites := []
  init := .initialized
  statics := none
  mirror := none

def pool0 : Array CpInfo := pool [(5, u "<init>"), (0, u "()V"), (1, .class_ 10), (1, u "java/lang/Object")] 113

def k0c0 : Code := { maxStack := 0, maxLocals := 1, code := object_method_1_code, exceptionTable := #[], attributes := #[] }
def k0m0 : Method := { name := "<init>", desc := "()V", sig := { parameters := [], returnType := none }, accessFlags := 1, code := some k0c0 }
/-- java/lang/Object -/
def k0 : Class := { plain "java/lang/Object" none with
  accessFlags := 33
  interfaces := #[]
  cf := some (fileOf pool0 8 #[] #[{ accessFlags := 1, nameIndex := 5, descriptorIndex := 6, attributes := #[] }] 33 0 #[] #[])
  fields := #[]
  methods := #[k0m0]
  instanceTypes := #[]
  staticTypes := #[]
  resolved := Array.replicate 124 none
  statics := none }

def pool1 : Array CpInfo := pool [(2, .class_ 4), (1, u "java/lang/Object"), (0, u "<init>"), (0, u "()V"), (0, .class_ 8), (0, u "com/example/tandemcab/tandemcab/NodeQueue"), (0, .methodref 7 10), (0, .nameAndType 5 11), (0, u "(I)V"), (0, .methodref 7 13), (0, .nameAndType 14 15), (0, u "offer"), (0, u "(IDD)V"), (0, .methodref 7 17), (0, .nameAndType 18 6), (0, u "clear"), (0, .methodref 7 20), (0, .nameAndType 21 22), (0, u "isEmpty"), (0, u "()Z"), (0, .double 4617315517961601024), (1, .double 4611686018427387904), (1, .double 4621256167635550208), (1, .methodref 7 30), (0, .nameAndType 31 32), (0, u "poll"), (0, u "()I"), (0, .class_ 34), (0, u "com/example/tandemcab/tandemcab/NodeQueueClearPinLaw"), (2, u "law"), (0, u "(IIIIII)Z")] 3

def k1m0 : Method := { name := "<init>", desc := "()V", sig := { parameters := [], returnType := none }, accessFlags := 1, code := none }
def k1c1 : Code := { maxStack := 6, maxLocals := 12, code := code, exceptionTable := #[], attributes := #[] }
def k1m1 : Method := { name := "law", desc := "(IIIIII)Z", sig := { parameters := [.int, .int, .int, .int, .int, .int], returnType := some .boolean }, accessFlags := 9, code := some k1c1 }
/-- com/example/tandemcab/tandemcab/NodeQueueClearPinLaw -/
def k1 : Class := { plain "com/example/tandemcab/tandemcab/NodeQueueClearPinLaw" (some 0) with
  accessFlags := 49
  interfaces := #[]
  cf := some (fileOf pool1 33 #[] #[{ accessFlags := 1, nameIndex := 5, descriptorIndex := 6, attributes := #[] }, { accessFlags := 9, nameIndex := 37, descriptorIndex := 38, attributes := #[] }] 49 2 #[] #[])
  fields := #[]
  methods := #[k1m0, k1m1]
  instanceTypes := #[]
  staticTypes := #[]
  resolved := Array.replicate 42 none
  statics := none }

def pool2 : Array CpInfo := pool [(1, .methodref 2 3), (0, .class_ 4), (0, .nameAndType 5 6), (0, u "java/lang/Object"), (0, u "<init>"), (0, u "()V"), (0, .fieldref 8 9), (0, .class_ 10), (0, .nameAndType 11 12), (0, u "com/example/tandemcab/tandemcab/NodeQueue"), (0, u "nodes"), (0, u "[I"), (0, .fieldref 8 14), (0, .nameAndType 15 16), (0, u "seconds"), (0, u "[D"), (0, .fieldref 8 18), (0, .nameAndType 19 16), (0, u "metres"), (0, .fieldref 8 21), (0, .nameAndType 22 12), (0, u "position"), (0, .fieldref 8 24), (0, .nameAndType 25 26), (0, u "size"), (0, u "I"), (0, .methodref 8 28), (0, .nameAndType 29 30), (0, u "up"), (0, u "(IDDI)V"), (0, .methodref 8 32), (0, .nameAndType 33 34), (0, u "before"), (0, u "(DDDD)Z"), (0, .methodref 8 36), (0, .nameAndType 37 30), (0, u "down"), (0, .methodref 8 39), (0, .nameAndType 40 41), (0, u "move"), (0, u "(II)V"), (0, .methodref 8 43), (0, .nameAndType 44 30), (0, u "place"), (0, u "(I)V"), (2, u "isEmpty"), (0, u "()Z"), (1, u "clear"), (2, u "offer"), (0, u "(IDD)V"), (0, u "poll"), (0, u "()I")] 2

def k2c0 : Code := { maxStack := 2, maxLocals := 2, code := prog_49_method_1_code, exceptionTable := #[], attributes := #[] }
def k2m0 : Method := { name := "<init>", desc := "(I)V", sig := { parameters := [.int], returnType := none }, accessFlags := 0, code := some k2c0 }
def k2c1 : Code := { maxStack := 1, maxLocals := 1, code := prog_49_method_2_code, exceptionTable := #[], attributes := #[] }
def k2m1 : Method := { name := "isEmpty", desc := "()Z", sig := { parameters := [], returnType := some .boolean }, accessFlags := 0, code := some k2c1 }
def k2c2 : Code := { maxStack := 3, maxLocals := 2, code := prog_49_method_3_code, exceptionTable := #[], attributes := #[] }
def k2m2 : Method := { name := "clear", desc := "()V", sig := { parameters := [], returnType := none }, accessFlags := 0, code := some k2c2 }
def k2c3 : Code := { maxStack := 10, maxLocals := 7, code := prog_49_method_5_code, exceptionTable := #[], attributes := #[] }
def k2m3 : Method := { name := "offer", desc := "(IDD)V", sig := { parameters := [.int, .double, .double], returnType := none }, accessFlags := 0, code := some k2c3 }
def k2c4 : Code := { maxStack := 7, maxLocals := 2, code := prog_49_method_6_code, exceptionTable := #[], attributes := #[] }
def k2m4 : Method := { name := "poll", desc := "()I", sig := { parameters := [], returnType := some .int }, accessFlags := 0, code := some k2c4 }
def k2c5 : Code := { maxStack := 8, maxLocals := 8, code := prog_49_method_7_code, exceptionTable := #[], attributes := #[] }
def k2m5 : Method := { name := "up", desc := "(IDDI)V", sig := { parameters := [.int, .double, .double, .int], returnType := none }, accessFlags := 2, code := some k2c5 }
def k2c6 : Code := { maxStack := 8, maxLocals := 10, code := prog_49_method_8_code, exceptionTable := #[], attributes := #[] }
def k2m6 : Method := { name := "down", desc := "(IDDI)V", sig := { parameters := [.int, .double, .double, .int], returnType := none }, accessFlags := 2, code := some k2c6 }
def k2c7 : Code := { maxStack := 7, maxLocals := 3, code := prog_49_method_9_code, exceptionTable := #[], attributes := #[] }
def k2m7 : Method := { name := "move", desc := "(II)V", sig := { parameters := [.int, .int], returnType := none }, accessFlags := 2, code := some k2c7 }
def k2c8 : Code := { maxStack := 4, maxLocals := 7, code := prog_49_method_10_code, exceptionTable := #[], attributes := #[] }
def k2m8 : Method := { name := "place", desc := "(IDDI)V", sig := { parameters := [.int, .double, .double, .int], returnType := none }, accessFlags := 2, code := some k2c8 }
def k2c9 : Code := { maxStack := 4, maxLocals := 8, code := prog_49_method_11_code, exceptionTable := #[], attributes := #[] }
def k2m9 : Method := { name := "before", desc := "(DDDD)Z", sig := { parameters := [.double, .double, .double, .double], returnType := some .boolean }, accessFlags := 10, code := some k2c9 }
/-- com/example/tandemcab/tandemcab/NodeQueue -/
def k2 : Class := { plain "com/example/tandemcab/tandemcab/NodeQueue" (some 0) with
  accessFlags := 48
  interfaces := #[]
  cf := some (fileOf pool2 8 #[] #[{ accessFlags := 0, nameIndex := 5, descriptorIndex := 45, attributes := #[] }, { accessFlags := 0, nameIndex := 48, descriptorIndex := 49, attributes := #[] }, { accessFlags := 0, nameIndex := 51, descriptorIndex := 6, attributes := #[] }, { accessFlags := 0, nameIndex := 54, descriptorIndex := 55, attributes := #[] }, { accessFlags := 0, nameIndex := 56, descriptorIndex := 57, attributes := #[] }, { accessFlags := 2, nameIndex := 29, descriptorIndex := 30, attributes := #[] }, { accessFlags := 2, nameIndex := 37, descriptorIndex := 30, attributes := #[] }, { accessFlags := 2, nameIndex := 40, descriptorIndex := 41, attributes := #[] }, { accessFlags := 2, nameIndex := 44, descriptorIndex := 30, attributes := #[] }, { accessFlags := 10, nameIndex := 33, descriptorIndex := 34, attributes := #[] }] 48 2 #[] #[{ accessFlags := 18, nameIndex := 11, descriptorIndex := 12, attributes := #[] }, { accessFlags := 18, nameIndex := 15, descriptorIndex := 16, attributes := #[] }, { accessFlags := 18, nameIndex := 19, descriptorIndex := 16, attributes := #[] }, { accessFlags := 18, nameIndex := 22, descriptorIndex := 12, attributes := #[] }, { accessFlags := 2, nameIndex := 25, descriptorIndex := 26, attributes := #[] }])
  fields := #[{ name := "nodes", type := (.array .int), accessFlags := 18, slot := 0, constantValue := 0 }, { name := "seconds", type := (.array .double), accessFlags := 18, slot := 1, constantValue := 0 }, { name := "metres", type := (.array .double), accessFlags := 18, slot := 2, constantValue := 0 }, { name := "position", type := (.array .int), accessFlags := 18, slot := 3, constantValue := 0 }, { name := "size", type := .int, accessFlags := 2, slot := 4, constantValue := 0 }]
  methods := #[k2m0, k2m1, k2m2, k2m3, k2m4, k2m5, k2m6, k2m7, k2m8, k2m9]
  instanceTypes := #[(.array .int), (.array .double), (.array .double), (.array .int), .int]
  staticTypes := #[]
  resolved := Array.replicate 60 none
  statics := none }

def pool3 : Array CpInfo := pool [(1, u "java/lang/Cloneable"), (0, .class_ 1), (0, u "java/lang/Object"), (0, .class_ 3)] 3

/-- java/lang/Cloneable -/
def k3 : Class := { plain "java/lang/Cloneable" (some 0) with
  accessFlags := 1537
  interfaces := #[]
  cf := some (fileOf pool3 2 #[] #[] 1537 4 #[] #[])
  fields := #[]
  methods := #[]
  instanceTypes := #[]
  staticTypes := #[]
  resolved := Array.replicate 8 none
  statics := none }

def pool4 : Array CpInfo := pool [(1, u "java/io/Serializable"), (0, .class_ 1), (0, u "java/lang/Object"), (0, .class_ 3)] 3

/-- java/io/Serializable -/
def k4 : Class := { plain "java/io/Serializable" (some 0) with
  accessFlags := 1537
  interfaces := #[]
  cf := some (fileOf pool4 2 #[] #[] 1537 4 #[] #[])
  fields := #[]
  methods := #[]
  instanceTypes := #[]
  staticTypes := #[]
  resolved := Array.replicate 8 none
  statics := none }

/-- the primitive byte -/
def k5 : Class := { plain "byte" none with kind := .primitive 'B', accessFlags := 0x411 }
/-- [B -/
def k6 : Class := { plain "[B" (some 0) with kind := .array 5 .byte, interfaces := #[3, 4], accessFlags := 1041 }

/-- the primitive double -/
def k7 : Class := { plain "double" none with kind := .primitive 'D', accessFlags := 0x411 }
/-- [D -/
def k8 : Class := { plain "[D" (some 0) with kind := .array 7 .double, interfaces := #[3, 4], accessFlags := 1041 }

/-- the primitive int -/
def k9 : Class := { plain "int" none with kind := .primitive 'I', accessFlags := 0x411 }
/-- [I -/
def k10 : Class := { plain "[I" (some 0) with kind := .array 9 .int, interfaces := #[3, 4], accessFlags := 1041 }

def heap : Heap := #[]
def classes : Array Class := #[k0, k1, k2, k3, k4, k5, k6, k7, k8, k9, k10]
def interned : List (Array UInt16 × Addr) := []
def slotsUsed : Nat := 0
def theMethod : MethodId := ⟨1, 1⟩
def args0 : Array Value := #[.int 3, .int 7, .int 9, .int 11, .int 3, .int 5]
def aboutOver (below : List Frame) : State where
  vm := { classes := classes, interned := interned.toArray }
  heap := heap
  slotsUsed := slotsUsed
  threads := #[{ frames := .invoking theMethod args0 :: below }]
def below0 : List Frame := [.native { method := ⟨0, 0⟩, args := #[] }]
def about1 : State := aboutOver below0
def p0 : Program := .bare "" "" ""
def e0 : Env := launch0.env 0 0 0
theorem w_frames : about1.frames = Frame.invoking theMethod args0 :: below0 := rfl
set_option maxRecDepth 65536 in
theorem w_args : argsFit about1.vm theMethod args0 = true := by decide +kernel
set_option maxRecDepth 65536 in
theorem w_heap : heapFits about1 = true := by decide +kernel
set_option maxRecDepth 65536 in
theorem w_runnable : about1.curStatus? = some .runnable := by decide +kernel
set_option maxRecDepth 65536 in
theorem w_alone : about1.alone = true := by decide +kernel
set_option maxRecDepth 65536 in
theorem w_named : about1.methodNamed? x = some theMethod := by decide +kernel
set_option maxRecDepth 65536 in
theorem w_hears : about1.hears theMethod below0 = true := by decide +kernel
set_option maxRecDepth 65536 in
theorem w_ripe : about1.ripe theMethod args0 below0 = true := by decide +kernel
theorem w_running : about1.status = .running := rfl
set_option maxRecDepth 65536 in
theorem w_room : about1.hasRoom e0.platform room_1 = true :=
  launch0.hasRoom_least _ room_1 (by decide +kernel) (by decide +kernel) (by decide +kernel) (by decide +kernel) (by decide +kernel) (by decide +kernel)
theorem allAtoms_all (ts : List Jvm.Cond) (a : Array Jvm.Value) (st : Jvm.State) : (allAtoms ts).before a st = ts.all (fun c => c.before a st) := by
  induction ts with
  | nil => rfl
  | cons c t ih =>
    show (Jvm.Cond.and c (allAtoms t)).before a st = _
    rw [Jvm.Cond.before_and, ih, List.all_cons]
def words1 : List Jvm.Cond := Jvm.Cond.code x code maxLocals ret :: tables_1
/-- a 'code' word, met by the world's own term for the bytes: nothing is compared byte by byte -/
theorem code_word {y : MethodName} {bytes : ByteArray} {mx : Nat} {rt : Option FieldType} {a : Array Value} {s : State} {m : MethodId} {meth : Method} {c : Code} (h1 : s.methodNamed? y = some m) (h2 : s.vm.method? m = some meth) (h3 : meth.code = some c) (h4 : c.code = bytes)
    (h5 : (c.maxLocals == mx && c.exceptionTable.isEmpty && decide (c.maxStack ≤ mostOperands) && decide (meth.sig.returnType = rt) && !meth.locks && decide (parseMethodDescriptor y.desc = some meth.sig)) = true) : (Jvm.Cond.code y bytes mx rt).before a s = true := by
  simp only [Bool.and_eq_true, beq_iff_eq, Bool.not_eq_true', decide_eq_true_eq] at h5
  obtain ⟨⟨⟨⟨⟨g1, g2⟩, g3⟩, g4⟩, g5⟩, g6⟩ := h5
  simp [Cond.before, Cond.holds, Cond.value, h1, h2, h3, h4, g1, g2, g3, g4, g5, g6]
def isCode : Jvm.Cond → Bool
  | .code _ _ _ _ => true
  | _ => false
theorem all_split {L : List Jvm.Cond} {P : Jvm.Cond → Bool} (h1 : L.all (fun c => isCode c || P c) = true) (h2 : ∀ c ∈ L.filter isCode, P c = true) : L.all P = true := by
  refine List.all_eq_true.mpr fun c hc => ?_
  have h := List.all_eq_true.mp h1 c hc
  rcases Bool.eq_false_or_eq_true (isCode c) with hi | hi
  · exact h2 c (List.mem_filter.mpr ⟨hc, hi⟩)
  · simpa [hi] using h
set_option maxRecDepth 65536 in
theorem w_c0 : (Jvm.Cond.code x code maxLocals ret).before args0 about1 = true := code_word (m := ⟨1, 1⟩) (meth := k1m1) (c := k1c1) (by decide +kernel) rfl rfl rfl (by decide +kernel)
set_option maxRecDepth 65536 in
theorem w_c1 : (Jvm.Cond.code ({ cls := "com/example/tandemcab/tandemcab/NodeQueue", name := "<init>", desc := "(I)V" } : Jvm.MethodName) prog_49_method_1_code (2 : Nat) (Option.none : Option Jvm.ClassFile.FieldType)).before args0 about1 = true := code_word (m := ⟨2, 0⟩) (meth := k2m0) (c := k2c0) (by decide +kernel) rfl rfl rfl (by decide +kernel)
set_option maxRecDepth 65536 in
theorem w_c2 : (Jvm.Cond.code ({ cls := "java/lang/Object", name := "<init>", desc := "()V" } : Jvm.MethodName) object_method_1_code (1 : Nat) (Option.none : Option Jvm.ClassFile.FieldType)).before args0 about1 = true := code_word (m := ⟨0, 0⟩) (meth := k0m0) (c := k0c0) (by decide +kernel) rfl rfl rfl (by decide +kernel)
set_option maxRecDepth 65536 in
theorem w_c3 : (Jvm.Cond.code ({ cls := "com/example/tandemcab/tandemcab/NodeQueue", name := "clear", desc := "()V" } : Jvm.MethodName) prog_49_method_3_code (2 : Nat) (Option.none : Option Jvm.ClassFile.FieldType)).before args0 about1 = true := code_word (m := ⟨2, 2⟩) (meth := k2m2) (c := k2c2) (by decide +kernel) rfl rfl rfl (by decide +kernel)
set_option maxRecDepth 65536 in
theorem w_c4 : (Jvm.Cond.code ({ cls := "com/example/tandemcab/tandemcab/NodeQueue", name := "isEmpty", desc := "()Z" } : Jvm.MethodName) prog_49_method_2_code (1 : Nat) (Option.some Jvm.ClassFile.FieldType.boolean)).before args0 about1 = true := code_word (m := ⟨2, 1⟩) (meth := k2m1) (c := k2c1) (by decide +kernel) rfl rfl rfl (by decide +kernel)
set_option maxRecDepth 65536 in
theorem w_c5 : (Jvm.Cond.code ({ cls := "com/example/tandemcab/tandemcab/NodeQueue", name := "offer", desc := "(IDD)V" } : Jvm.MethodName) prog_49_method_5_code (7 : Nat) (Option.none : Option Jvm.ClassFile.FieldType)).before args0 about1 = true := code_word (m := ⟨2, 3⟩) (meth := k2m3) (c := k2c3) (by decide +kernel) rfl rfl rfl (by decide +kernel)
set_option maxRecDepth 65536 in
theorem w_c6 : (Jvm.Cond.code ({ cls := "com/example/tandemcab/tandemcab/NodeQueue", name := "up", desc := "(IDDI)V" } : Jvm.MethodName) prog_49_method_7_code (8 : Nat) (Option.none : Option Jvm.ClassFile.FieldType)).before args0 about1 = true := code_word (m := ⟨2, 5⟩) (meth := k2m5) (c := k2c5) (by decide +kernel) rfl rfl rfl (by decide +kernel)
set_option maxRecDepth 65536 in
theorem w_c7 : (Jvm.Cond.code ({ cls := "com/example/tandemcab/tandemcab/NodeQueue", name := "place", desc := "(IDDI)V" } : Jvm.MethodName) prog_49_method_10_code (7 : Nat) (Option.none : Option Jvm.ClassFile.FieldType)).before args0 about1 = true := code_word (m := ⟨2, 8⟩) (meth := k2m8) (c := k2c8) (by decide +kernel) rfl rfl rfl (by decide +kernel)
set_option maxRecDepth 65536 in
theorem w_c8 : (Jvm.Cond.code ({ cls := "com/example/tandemcab/tandemcab/NodeQueue", name := "before", desc := "(DDDD)Z" } : Jvm.MethodName) prog_49_method_11_code (8 : Nat) (Option.some Jvm.ClassFile.FieldType.boolean)).before args0 about1 = true := code_word (m := ⟨2, 9⟩) (meth := k2m9) (c := k2c9) (by decide +kernel) rfl rfl rfl (by decide +kernel)
set_option maxRecDepth 65536 in
theorem w_c9 : (Jvm.Cond.code ({ cls := "com/example/tandemcab/tandemcab/NodeQueue", name := "move", desc := "(II)V" } : Jvm.MethodName) prog_49_method_9_code (3 : Nat) (Option.none : Option Jvm.ClassFile.FieldType)).before args0 about1 = true := code_word (m := ⟨2, 7⟩) (meth := k2m7) (c := k2c7) (by decide +kernel) rfl rfl rfl (by decide +kernel)
set_option maxRecDepth 65536 in
theorem w_c10 : (Jvm.Cond.code ({ cls := "com/example/tandemcab/tandemcab/NodeQueue", name := "poll", desc := "()I" } : Jvm.MethodName) prog_49_method_6_code (2 : Nat) (Option.some Jvm.ClassFile.FieldType.int)).before args0 about1 = true := code_word (m := ⟨2, 4⟩) (meth := k2m4) (c := k2c4) (by decide +kernel) rfl rfl rfl (by decide +kernel)
set_option maxRecDepth 65536 in
theorem w_c11 : (Jvm.Cond.code ({ cls := "com/example/tandemcab/tandemcab/NodeQueue", name := "down", desc := "(IDDI)V" } : Jvm.MethodName) prog_49_method_8_code (10 : Nat) (Option.none : Option Jvm.ClassFile.FieldType)).before args0 about1 = true := code_word (m := ⟨2, 6⟩) (meth := k2m6) (c := k2c6) (by decide +kernel) rfl rfl rfl (by decide +kernel)
def codes1 : List Jvm.Cond := [Jvm.Cond.code x code maxLocals ret, Jvm.Cond.code ({ cls := "com/example/tandemcab/tandemcab/NodeQueue", name := "<init>", desc := "(I)V" } : Jvm.MethodName) prog_49_method_1_code (2 : Nat) (Option.none : Option Jvm.ClassFile.FieldType), Jvm.Cond.code ({ cls := "java/lang/Object", name := "<init>", desc := "()V" } : Jvm.MethodName) object_method_1_code (1 : Nat) (Option.none : Option Jvm.ClassFile.FieldType), Jvm.Cond.code ({ cls := "com/example/tandemcab/tandemcab/NodeQueue", name := "clear", desc := "()V" } : Jvm.MethodName) prog_49_method_3_code (2 : Nat) (Option.none : Option Jvm.ClassFile.FieldType), Jvm.Cond.code ({ cls := "com/example/tandemcab/tandemcab/NodeQueue", name := "isEmpty", desc := "()Z" } : Jvm.MethodName) prog_49_method_2_code (1 : Nat) (Option.some Jvm.ClassFile.FieldType.boolean), Jvm.Cond.code ({ cls := "com/example/tandemcab/tandemcab/NodeQueue", name := "offer", desc := "(IDD)V" } : Jvm.MethodName) prog_49_method_5_code (7 : Nat) (Option.none : Option Jvm.ClassFile.FieldType), Jvm.Cond.code ({ cls := "com/example/tandemcab/tandemcab/NodeQueue", name := "up", desc := "(IDDI)V" } : Jvm.MethodName) prog_49_method_7_code (8 : Nat) (Option.none : Option Jvm.ClassFile.FieldType), Jvm.Cond.code ({ cls := "com/example/tandemcab/tandemcab/NodeQueue", name := "place", desc := "(IDDI)V" } : Jvm.MethodName) prog_49_method_10_code (7 : Nat) (Option.none : Option Jvm.ClassFile.FieldType), Jvm.Cond.code ({ cls := "com/example/tandemcab/tandemcab/NodeQueue", name := "before", desc := "(DDDD)Z" } : Jvm.MethodName) prog_49_method_11_code (8 : Nat) (Option.some Jvm.ClassFile.FieldType.boolean), Jvm.Cond.code ({ cls := "com/example/tandemcab/tandemcab/NodeQueue", name := "move", desc := "(II)V" } : Jvm.MethodName) prog_49_method_9_code (3 : Nat) (Option.none : Option Jvm.ClassFile.FieldType), Jvm.Cond.code ({ cls := "com/example/tandemcab/tandemcab/NodeQueue", name := "poll", desc := "()I" } : Jvm.MethodName) prog_49_method_6_code (2 : Nat) (Option.some Jvm.ClassFile.FieldType.int), Jvm.Cond.code ({ cls := "com/example/tandemcab/tandemcab/NodeQueue", name := "down", desc := "(IDDI)V" } : Jvm.MethodName) prog_49_method_8_code (10 : Nat) (Option.none : Option Jvm.ClassFile.FieldType)]
set_option maxRecDepth 65536 in
theorem codes_eq : words1.filter isCode = codes1 := rfl
theorem w_codes : ∀ c ∈ words1.filter isCode, c.before args0 about1 = true := by
  rw [codes_eq]
  intro c hc
  simp only [codes1, List.mem_cons, List.not_mem_nil, or_false] at hc
  rcases hc with rfl | rfl | rfl | rfl | rfl | rfl | rfl | rfl | rfl | rfl | rfl | rfl
  · exact w_c0
  · exact w_c1
  · exact w_c2
  · exact w_c3
  · exact w_c4
  · exact w_c5
  · exact w_c6
  · exact w_c7
  · exact w_c8
  · exact w_c9
  · exact w_c10
  · exact w_c11
set_option maxRecDepth 65536 in
theorem w_t1 : (words1.take 24).all (fun c => isCode c || c.before args0 about1) = true := by decide +kernel
set_option maxRecDepth 65536 in
theorem w_t2 : ((words1.drop 24).take 24).all (fun c => isCode c || c.before args0 about1) = true := by decide +kernel
set_option maxRecDepth 65536 in
theorem w_t3 : ((words1.drop 24).drop 24).all (fun c => isCode c || c.before args0 about1) = true := by decide +kernel
theorem w_tables : (allAtoms (Jvm.Cond.code x code maxLocals ret :: tables_1)).before args0 about1 = true := by
  rw [allAtoms_all]
  show words1.all (fun c => c.before args0 about1) = true
  refine all_split ?_ w_codes
  rw [← List.take_append_drop 24 words1, List.all_append, w_t1, ← List.take_append_drop 24 (words1.drop 24), List.all_append, w_t2, w_t3]
  rfl
set_option maxRecDepth 65536 in
theorem w_case : (Jvm.Cond.and given_1 narrow_1).before args0 about1 = true := by decide +kernel
theorem w_applies : (headSpec (Jvm.Cond.code x code maxLocals ret :: tables_1) room_1).applies x e0.platform about1 = true :=
  (Spec.applies_iff w_frames).mpr ⟨w_running, w_runnable, w_alone, w_named, w_hears, w_ripe, w_room, w_tables⟩
theorem atStart : AtStart classFile x code maxLocals ret World_1 tables_1 room_1 Calls_1 rest_1 Pre_1 launch0 p0 e0 about1 theMethod args0 below0 :=
  ⟨lists_1, trivial, launch0.admits_env _ _ _, launch0.least_env, fairChoices_fair.cas, fairChoices_fair.clock, w_frames, w_args, w_heap, w_applies, trivial, trivial, w_case⟩
end start1
theorem witness_1 : WitnessClaimed_1 := ⟨start1.p0, start1.e0, start1.about1, start1.theMethod, start1.args0, start1.below0, start1.atStart⟩
end Jvm.Pilot.@@N@@
