import JvmDerived
import JvmDerived.Pilot.@@N@@Statement
import JvmDerived.Pilot.@@N@@Code
set_option linter.unusedVariables false
set_option linter.unusedSimpArgs false
namespace Jvm.RoadKit
open Sem ClassFile Op Lib Jvm.Stand Jvm.Free Jvm.LawKit
section New
variable {p : Program} {l : Launch} {e : Env} {R : Room} {s : State} {m : MethodId} {args : Array Value} {below : List Frame} {meth : Method} {c : Code} {T : State} {locs : List Loc} {cells slots : Nat}
theorem retI (X : Stand p l e R s m args below meth c T locs cells slots) (hx : p.tables.exec = Jvm.exec) {pc : Nat} {Ls : Array Slot} {z : Int32} {rest : List Value} (hret : meth.sig.returnType = some .int) (hd : decode c.code pc = .ok (.ireturn, 1)) {fs : List Frame}
    (hl : ∀ (f : JFrame) (acts : List Action), f.method = m → f.locked = none → f.entered = [] → (doReturn e (T.setTop f) acts (some (.int z))).1 = T.setFrames fs) : Steps p.tables e below (T.setTop (mkF m pc Ls (.int z :: rest))) (T.setFrames fs) := by
  have hm' : T.vm.method? m = some meth := X.method'
  have hn : narrow .int (.int z) = .int z := rfl
  show Steps p.tables e below (T.setTop { method := m, pc := pc, locals := Ls, stack := _ :: rest, locked := none }) _
  jvm_step X.here [X.here.top, hx, hd, hm', hret, hn]
  first | (intro acts; rw [hl _ acts rfl rfl rfl]) | rw [hl _ _ rfl rfl rfl]
  exact Steps.refl _
/-- from here the run ends as G says -/
def WP (tb : Tables) (e : Env) (below : List Frame) (G : State → Outcome → Prop) (T : State) (f : JFrame) : Prop := ∃ s₂ o, Steps tb e below (T.setTop f) s₂ ∧ G s₂ o
theorem WP.go {tb : Tables} {G : State → Outcome → Prop} {f : JFrame} (h : WP tb e below G T f) : ∃ s₂ o, Steps tb e below (T.setTop f) s₂ ∧ G s₂ o := h
theorem WP.fin {tb : Tables} {G : State → Outcome → Prop} {f : JFrame} (h : ∃ s₂ o, Steps tb e below (T.setTop f) s₂ ∧ G s₂ o) : WP tb e below G T f := h
theorem WP.cast {tb : Tables} {G : State → Outcome → Prop} {f f' : JFrame} (q : f = f') (h : WP tb e below G T f') : WP tb e below G T f := q ▸ h
theorem WP.st {tb : Tables} {G : State → Outcome → Prop} {T' : State} {f f' : JFrame} (k : ∀ t, Steps tb e below (T'.setTop f') t → Steps tb e below (T.setTop f) t) (h : WP tb e below G T' f') : WP tb e below G T f := by
  obtain ⟨s₂, o, h1, h2⟩ := h
  exact ⟨s₂, o, k _ h1, h2⟩
theorem WP.tr {tb : Tables} {G : State → Outcome → Prop} {T' : State} {f f' : JFrame} (k : Steps tb e below (T.setTop f) (T'.setTop f')) (h : WP tb e below G T' f') : WP tb e below G T f := by
  obtain ⟨s₂, o, h1, h2⟩ := h
  exact ⟨s₂, o, k.trans h1, h2⟩
theorem WP.name {tb : Tables} {G : State → Outcome → Prop} {f : JFrame} (h : ∀ G', G' = G → WP tb e below G' T f) : WP tb e below G T f := h G rfl
theorem ownWider (X : Stand p l e R s m args below meth c T locs cells slots) {c' s' : Nat} (h1 : cells ≤ c') (h2 : slots ≤ s') : Stand p l e R s m args below meth c T locs c' s' := { X with same := X.same.mono h1 h2 }
end New
theorem Arv.rd {Z : State} {h : Heap} {a : Addr} {k : ClassId} {ty : FieldType} {z j : Int32} {vs : List Value} {dv : Value} (F : Arv Z h a k ty z vs dv) (hj : ¬ j < 0 ∧ j < z) : ∃ c : Cell, Arr Z h a c ty ∧ ¬ (j < 0 ∨ c.slots.size ≤ j.toNatClampNeg) ∧ c.slots[j.toNatClampNeg]? = some (vs.getD j.toNatClampNeg dv) ∧ c.slots.size.toInt32 = z := by
  obtain ⟨c, A, -, S, q, H, -⟩ := F
  have hin := inb_of S hj
  exact ⟨c, A, hin, H.at hin rfl, len_of S q⟩
theorem Arv.len {Z : State} {h : Heap} {a : Addr} {k : ClassId} {ty : FieldType} {z : Int32} {vs : List Value} {dv : Value} (F : Arv Z h a k ty z vs dv) : ∃ c : Cell, Arr Z h a c ty ∧ c.slots.size.toInt32 = z := by
  obtain ⟨c, A, -, S, q, -, -⟩ := F
  exact ⟨c, A, len_of S q⟩
theorem ownFits {t : FieldType} {x : Int32} {y : Value} (h : narrow t (.int x) = y) (hf : fits t (narrow t (.int x)) = true) : fits t y = true := h ▸ hf
theorem nar01 {b : Int32} (h : b = 0 ∨ b = 1) : nar .boolean b = b := by rcases h with rfl | rfl <;> rfl
end Jvm.RoadKit
namespace Jvm.Pilot.@@N@@
open Jvm Jvm.ClassFile Sem Op Lib Jvm.Free Jvm.Stand Jvm.LawKit Jvm.RoadKit Bundle Jvm.Pilot.@@N@@.Jvm.D
def own_small (p : Int32) : Prop := ∃ k : Fin 8, p = Int32.ofNat k.val
theorem own_and7 (x : Int32) : own_small (x &&& (7 : Int32)) := by
  have h : (x &&& 7).toBitVec.toNat < 8 := by
    simp only [Int32.toBitVec_and, BitVec.toNat_and]
    exact Nat.lt_succ_of_le Nat.and_le_right
  refine ⟨⟨_, h⟩, ?_⟩
  apply Int32.toBitVec_inj.mp
  show _ = BitVec.ofNat 32 _
  rw [BitVec.ofNat_toNat]; simp
theorem own_and3 (x : Int32) : (x &&& (3 : Int32)) = 0 ∨ (x &&& (3 : Int32)) = 1 ∨ (x &&& (3 : Int32)) = 2 ∨ (x &&& (3 : Int32)) = 3 := by
  have h : (x &&& 3).toBitVec.toNat < 4 := by
    simp only [Int32.toBitVec_and, BitVec.toNat_and]
    exact Nat.lt_succ_of_le Nat.and_le_right
  have e : (x &&& 3) = Int32.ofNat (x &&& 3).toBitVec.toNat := by
    apply Int32.toBitVec_inj.mp
    show _ = BitVec.ofNat 32 _
    rw [BitVec.ofNat_toNat]; simp
  rw [e]
  exact (by decide +kernel : ∀ k : Fin 4, Int32.ofNat k.val = 0 ∨ Int32.ofNat k.val = 1 ∨ Int32.ofNat k.val = 2 ∨ Int32.ofNat k.val = 3) ⟨_, h⟩
def own_bit (p : Int32) : Int64 := ((1 : Int64) <<< ((p % (64 : Int32)) &&& 0x3f).toInt64)
theorem own_div {p : Int32} (h : own_small p) : p / (64 : Int32) = 0 := by
  obtain ⟨k, rfl⟩ := h
  exact (by decide +kernel : ∀ k : Fin 8, Int32.ofNat k.val / (64 : Int32) = 0) k
theorem own_b0 (s : Int32) : (0 : Int64) &&& own_bit s = 0 := by simp
theorem own_b1 {s t : Int32} (hs : own_small s) (ht : own_small t) : (((0 : Int64) ||| own_bit s) &&& own_bit t = 0) ↔ ¬ t = s := by
  obtain ⟨i, rfl⟩ := hs; obtain ⟨j, rfl⟩ := ht
  exact (by decide +kernel : ∀ i j : Fin 8, (((0 : Int64) ||| own_bit (Int32.ofNat i.val)) &&& own_bit (Int32.ofNat j.val) = 0) ↔ ¬ Int32.ofNat j.val = Int32.ofNat i.val) i j
theorem own_b2 {s t u : Int32} (hs : own_small s) (ht : own_small t) (hu : own_small u) : ((((0 : Int64) ||| own_bit s) ||| own_bit t) &&& own_bit u = 0) ↔ (¬ u = s ∧ ¬ u = t) := by
  obtain ⟨i, rfl⟩ := hs; obtain ⟨j, rfl⟩ := ht; obtain ⟨k, rfl⟩ := hu
  exact (by decide +kernel : ∀ i j k : Fin 8, ((((0 : Int64) ||| own_bit (Int32.ofNat i.val)) ||| own_bit (Int32.ofNat j.val)) &&& own_bit (Int32.ofNat k.val) = 0) ↔ (¬ Int32.ofNat k.val = Int32.ofNat i.val ∧ ¬ Int32.ofNat k.val = Int32.ofNat j.val)) i j k
theorem own_d1 (d e : Int64) : (d + 1) + e = (d + e) + 1 := by rw [Int64.add_assoc, Int64.add_comm 1 e, ← Int64.add_assoc]
theorem own_d2 (d e : Int64) : d + (e + 1) = (d + e) + 1 := (Int64.add_assoc ..).symm
def own_maxl (x y : Int64) : Int64 := if lcmpW x y < 0 then y else x
def own_minl (x y : Int64) : Int64 := if 0 < lcmpW x y then y else x
def own_min (x y : Int32) : Int32 := if y < x then y else x
def own_lat (n : Int64) : Int32 := (own_minl (2147483647 : Int64) (own_maxl (0 : Int64) (n / (1000 : Int64)))).toInt32
def own_mic (n : Int64) : Int32 := if lcmpW (n / (1000 : Int64)) (0 : Int64) < 0 then 0 else if 0 < lcmpW (n / (1000 : Int64)) (2147483647 : Int64) then 2147483647 else (n / (1000 : Int64)).toInt32
theorem own_lm (n : Int64) : own_lat n = own_mic n := by
  unfold own_lat own_mic own_minl own_maxl
  generalize n / (1000 : Int64) = q
  simp only [lw_lt, lw_gt]
  by_cases h1 : q < 0
  · have h2 : ¬ (0 : Int64) < q := fun h => by rw [Int64.lt_iff_toInt_lt] at h h1; omega
    simp [h1, h2]
  · by_cases h2 : (0 : Int64) < q
    · by_cases h3 : (2147483647 : Int64) < q
      · have h4 : ¬ q < 2147483647 := fun h => by rw [Int64.lt_iff_toInt_lt] at h h3; omega
        simp [h1, h2, h3, h4]
      · by_cases h4 : q < 2147483647
        · simp [h1, h2, h3, h4]
        · have e : q = 2147483647 := by
            apply Int64.toInt_inj.mp
            rw [Int64.lt_iff_toInt_lt] at h3 h4
            omega
          subst e
          decide
    · have e : q = 0 := by
        apply Int64.toInt_inj.mp
        rw [Int64.lt_iff_toInt_lt] at h1 h2
        omega
      subst e
      decide
theorem ef_1 (m : MethodId) (a1 : Addr) : entryFrame m #[(.ref a1), (.int (8 : Int32))] 2 = mkF m 0 #[.val (.ref a1), .val (.int (8 : Int32))] [] := by first | (simp [entryFrame, mkF, argsToLocals, Value.category]; done) | rfl
theorem pn_0 : plainName "com/example/otayori/otayori/bench/PairTally" = true := by first | (simp [plainName, overriddenIn]; done) | decide +kernel
theorem d1_0 : decode prog_3_method_1_code 0 = .ok (.aload_n 0, 1) := by decide +kernel
theorem d1_1 : decode prog_3_method_1_code 1 = .ok (.invokespecial 1, 3) := by decide +kernel
theorem d1_4 : decode prog_3_method_1_code 4 = .ok (.aload_n 0, 1) := by decide +kernel
theorem d1_5 : decode prog_3_method_1_code 5 = .ok (.iconst (-1), 1) := by decide +kernel
theorem d1_6 : decode prog_3_method_1_code 6 = .ok (.putfield 7, 3) := by decide +kernel
theorem sn_0 {a0 : Array Value} {Z : State} (hw : ∀ d ∈ tables_1, d.before a0 Z = true) : Jvm.RoadKit.slotOf Z "com/example/otayori/otayori/bench/PairTally" "latenciesMicros" "[I" ≠ Jvm.RoadKit.slotOf Z "com/example/otayori/otayori/bench/PairTally" "highestSequence" "I" := slot_ne (Or.inl (hw _ (List.mem_of_getElem? (i := 13) rfl))) (Or.inl (hw _ (List.mem_of_getElem? (i := 10) rfl))) (by decide) (t := (.array .int)) (t' := .int) (by decide) (by decide)
theorem sn_1 {a0 : Array Value} {Z : State} (hw : ∀ d ∈ tables_1, d.before a0 Z = true) : Jvm.RoadKit.slotOf Z "com/example/otayori/otayori/bench/PairTally" "messages" "I" ≠ Jvm.RoadKit.slotOf Z "com/example/otayori/otayori/bench/PairTally" "highestSequence" "I" := slot_ne (Or.inr (hw _ (List.mem_of_getElem? (i := 15) rfl))) (Or.inl (hw _ (List.mem_of_getElem? (i := 10) rfl))) (by decide) (t := .int) (t' := .int) (by decide) (by decide)
theorem sn_2 {a0 : Array Value} {Z : State} (hw : ∀ d ∈ tables_1, d.before a0 Z = true) : Jvm.RoadKit.slotOf Z "com/example/otayori/otayori/bench/PairTally" "seen" "[J" ≠ Jvm.RoadKit.slotOf Z "com/example/otayori/otayori/bench/PairTally" "highestSequence" "I" := slot_ne (Or.inr (hw _ (List.mem_of_getElem? (i := 18) rfl))) (Or.inl (hw _ (List.mem_of_getElem? (i := 10) rfl))) (by decide) (t := (.array .long)) (t' := .int) (by decide) (by decide)
theorem sn_3 {a0 : Array Value} {Z : State} (hw : ∀ d ∈ tables_1, d.before a0 Z = true) : Jvm.RoadKit.slotOf Z "com/example/otayori/otayori/bench/PairTally" "delivered" "J" ≠ Jvm.RoadKit.slotOf Z "com/example/otayori/otayori/bench/PairTally" "highestSequence" "I" := slot_ne (Or.inl (hw _ (List.mem_of_getElem? (i := 25) rfl))) (Or.inl (hw _ (List.mem_of_getElem? (i := 10) rfl))) (by decide) (t := .long) (t' := .int) (by decide) (by decide)
theorem sn_4 {a0 : Array Value} {Z : State} (hw : ∀ d ∈ tables_1, d.before a0 Z = true) : Jvm.RoadKit.slotOf Z "com/example/otayori/otayori/bench/PairTally" "late" "J" ≠ Jvm.RoadKit.slotOf Z "com/example/otayori/otayori/bench/PairTally" "highestSequence" "I" := slot_ne (Or.inl (hw _ (List.mem_of_getElem? (i := 27) rfl))) (Or.inl (hw _ (List.mem_of_getElem? (i := 10) rfl))) (by decide) (t := .long) (t' := .int) (by decide) (by decide)
theorem sn_5 {a0 : Array Value} {Z : State} (hw : ∀ d ∈ tables_1, d.before a0 Z = true) : Jvm.RoadKit.slotOf Z "com/example/otayori/otayori/bench/PairTally" "outOfOrder" "J" ≠ Jvm.RoadKit.slotOf Z "com/example/otayori/otayori/bench/PairTally" "highestSequence" "I" := slot_ne (Or.inl (hw _ (List.mem_of_getElem? (i := 44) rfl))) (Or.inl (hw _ (List.mem_of_getElem? (i := 10) rfl))) (by decide) (t := .long) (t' := .int) (by decide) (by decide)
theorem sn_6 {a0 : Array Value} {Z : State} (hw : ∀ d ∈ tables_1, d.before a0 Z = true) : Jvm.RoadKit.slotOf Z "com/example/otayori/otayori/bench/PairTally" "duplicated" "J" ≠ Jvm.RoadKit.slotOf Z "com/example/otayori/otayori/bench/PairTally" "highestSequence" "I" := slot_ne (Or.inl (hw _ (List.mem_of_getElem? (i := 47) rfl))) (Or.inl (hw _ (List.mem_of_getElem? (i := 10) rfl))) (by decide) (t := .long) (t' := .int) (by decide) (by decide)
theorem sn_7 {a0 : Array Value} {Z : State} (hw : ∀ d ∈ tables_1, d.before a0 Z = true) : Jvm.RoadKit.slotOf Z "com/example/otayori/otayori/bench/PairTally" "lastDeliveryNanos" "J" ≠ Jvm.RoadKit.slotOf Z "com/example/otayori/otayori/bench/PairTally" "highestSequence" "I" := slot_ne (Or.inl (hw _ (List.mem_of_getElem? (i := 66) rfl))) (Or.inl (hw _ (List.mem_of_getElem? (i := 10) rfl))) (by decide) (t := .long) (t' := .int) (by decide) (by decide)
theorem d1_9 : decode prog_3_method_1_code 9 = .ok (.aload_n 0, 1) := by decide +kernel
theorem d1_10 : decode prog_3_method_1_code 10 = .ok (.bipush 16, 2) := by decide +kernel
theorem d1_12 : decode prog_3_method_1_code 12 = .ok (.newarray .int, 2) := by decide +kernel
theorem d1_14 : decode prog_3_method_1_code 14 = .ok (.putfield 13, 3) := by decide +kernel
theorem sn_8 {a0 : Array Value} {Z : State} (hw : ∀ d ∈ tables_1, d.before a0 Z = true) : Jvm.RoadKit.slotOf Z "com/example/otayori/otayori/bench/PairTally" "highestSequence" "I" ≠ Jvm.RoadKit.slotOf Z "com/example/otayori/otayori/bench/PairTally" "latenciesMicros" "[I" := slot_ne (Or.inl (hw _ (List.mem_of_getElem? (i := 10) rfl))) (Or.inl (hw _ (List.mem_of_getElem? (i := 13) rfl))) (by decide) (t := .int) (t' := (.array .int)) (by decide) (by decide)
theorem sn_9 {a0 : Array Value} {Z : State} (hw : ∀ d ∈ tables_1, d.before a0 Z = true) : Jvm.RoadKit.slotOf Z "com/example/otayori/otayori/bench/PairTally" "messages" "I" ≠ Jvm.RoadKit.slotOf Z "com/example/otayori/otayori/bench/PairTally" "latenciesMicros" "[I" := slot_ne (Or.inr (hw _ (List.mem_of_getElem? (i := 15) rfl))) (Or.inl (hw _ (List.mem_of_getElem? (i := 13) rfl))) (by decide) (t := .int) (t' := (.array .int)) (by decide) (by decide)
theorem sn_10 {a0 : Array Value} {Z : State} (hw : ∀ d ∈ tables_1, d.before a0 Z = true) : Jvm.RoadKit.slotOf Z "com/example/otayori/otayori/bench/PairTally" "seen" "[J" ≠ Jvm.RoadKit.slotOf Z "com/example/otayori/otayori/bench/PairTally" "latenciesMicros" "[I" := slot_ne (Or.inr (hw _ (List.mem_of_getElem? (i := 18) rfl))) (Or.inl (hw _ (List.mem_of_getElem? (i := 13) rfl))) (by decide) (t := (.array .long)) (t' := (.array .int)) (by decide) (by decide)
theorem sn_11 {a0 : Array Value} {Z : State} (hw : ∀ d ∈ tables_1, d.before a0 Z = true) : Jvm.RoadKit.slotOf Z "com/example/otayori/otayori/bench/PairTally" "delivered" "J" ≠ Jvm.RoadKit.slotOf Z "com/example/otayori/otayori/bench/PairTally" "latenciesMicros" "[I" := slot_ne (Or.inl (hw _ (List.mem_of_getElem? (i := 25) rfl))) (Or.inl (hw _ (List.mem_of_getElem? (i := 13) rfl))) (by decide) (t := .long) (t' := (.array .int)) (by decide) (by decide)
theorem sn_12 {a0 : Array Value} {Z : State} (hw : ∀ d ∈ tables_1, d.before a0 Z = true) : Jvm.RoadKit.slotOf Z "com/example/otayori/otayori/bench/PairTally" "late" "J" ≠ Jvm.RoadKit.slotOf Z "com/example/otayori/otayori/bench/PairTally" "latenciesMicros" "[I" := slot_ne (Or.inl (hw _ (List.mem_of_getElem? (i := 27) rfl))) (Or.inl (hw _ (List.mem_of_getElem? (i := 13) rfl))) (by decide) (t := .long) (t' := (.array .int)) (by decide) (by decide)
theorem sn_13 {a0 : Array Value} {Z : State} (hw : ∀ d ∈ tables_1, d.before a0 Z = true) : Jvm.RoadKit.slotOf Z "com/example/otayori/otayori/bench/PairTally" "outOfOrder" "J" ≠ Jvm.RoadKit.slotOf Z "com/example/otayori/otayori/bench/PairTally" "latenciesMicros" "[I" := slot_ne (Or.inl (hw _ (List.mem_of_getElem? (i := 44) rfl))) (Or.inl (hw _ (List.mem_of_getElem? (i := 13) rfl))) (by decide) (t := .long) (t' := (.array .int)) (by decide) (by decide)
theorem sn_14 {a0 : Array Value} {Z : State} (hw : ∀ d ∈ tables_1, d.before a0 Z = true) : Jvm.RoadKit.slotOf Z "com/example/otayori/otayori/bench/PairTally" "duplicated" "J" ≠ Jvm.RoadKit.slotOf Z "com/example/otayori/otayori/bench/PairTally" "latenciesMicros" "[I" := slot_ne (Or.inl (hw _ (List.mem_of_getElem? (i := 47) rfl))) (Or.inl (hw _ (List.mem_of_getElem? (i := 13) rfl))) (by decide) (t := .long) (t' := (.array .int)) (by decide) (by decide)
theorem sn_15 {a0 : Array Value} {Z : State} (hw : ∀ d ∈ tables_1, d.before a0 Z = true) : Jvm.RoadKit.slotOf Z "com/example/otayori/otayori/bench/PairTally" "lastDeliveryNanos" "J" ≠ Jvm.RoadKit.slotOf Z "com/example/otayori/otayori/bench/PairTally" "latenciesMicros" "[I" := slot_ne (Or.inl (hw _ (List.mem_of_getElem? (i := 66) rfl))) (Or.inl (hw _ (List.mem_of_getElem? (i := 13) rfl))) (by decide) (t := .long) (t' := (.array .int)) (by decide) (by decide)
theorem d1_17 : decode prog_3_method_1_code 17 = .ok (.aload_n 0, 1) := by decide +kernel
theorem d1_18 : decode prog_3_method_1_code 18 = .ok (.iload_n 1, 1) := by decide +kernel
theorem d1_19 : decode prog_3_method_1_code 19 = .ok (.putfield 17, 3) := by decide +kernel
theorem sn_16 {a0 : Array Value} {Z : State} (hw : ∀ d ∈ tables_1, d.before a0 Z = true) : Jvm.RoadKit.slotOf Z "com/example/otayori/otayori/bench/PairTally" "highestSequence" "I" ≠ Jvm.RoadKit.slotOf Z "com/example/otayori/otayori/bench/PairTally" "messages" "I" := slot_ne (Or.inl (hw _ (List.mem_of_getElem? (i := 10) rfl))) (Or.inr (hw _ (List.mem_of_getElem? (i := 15) rfl))) (by decide) (t := .int) (t' := .int) (by decide) (by decide)
theorem sn_17 {a0 : Array Value} {Z : State} (hw : ∀ d ∈ tables_1, d.before a0 Z = true) : Jvm.RoadKit.slotOf Z "com/example/otayori/otayori/bench/PairTally" "latenciesMicros" "[I" ≠ Jvm.RoadKit.slotOf Z "com/example/otayori/otayori/bench/PairTally" "messages" "I" := slot_ne (Or.inl (hw _ (List.mem_of_getElem? (i := 13) rfl))) (Or.inr (hw _ (List.mem_of_getElem? (i := 15) rfl))) (by decide) (t := (.array .int)) (t' := .int) (by decide) (by decide)
theorem sn_18 {a0 : Array Value} {Z : State} (hw : ∀ d ∈ tables_1, d.before a0 Z = true) : Jvm.RoadKit.slotOf Z "com/example/otayori/otayori/bench/PairTally" "seen" "[J" ≠ Jvm.RoadKit.slotOf Z "com/example/otayori/otayori/bench/PairTally" "messages" "I" := slot_ne (Or.inr (hw _ (List.mem_of_getElem? (i := 18) rfl))) (Or.inr (hw _ (List.mem_of_getElem? (i := 15) rfl))) (by decide) (t := (.array .long)) (t' := .int) (by decide) (by decide)
theorem sn_19 {a0 : Array Value} {Z : State} (hw : ∀ d ∈ tables_1, d.before a0 Z = true) : Jvm.RoadKit.slotOf Z "com/example/otayori/otayori/bench/PairTally" "delivered" "J" ≠ Jvm.RoadKit.slotOf Z "com/example/otayori/otayori/bench/PairTally" "messages" "I" := slot_ne (Or.inl (hw _ (List.mem_of_getElem? (i := 25) rfl))) (Or.inr (hw _ (List.mem_of_getElem? (i := 15) rfl))) (by decide) (t := .long) (t' := .int) (by decide) (by decide)
theorem sn_20 {a0 : Array Value} {Z : State} (hw : ∀ d ∈ tables_1, d.before a0 Z = true) : Jvm.RoadKit.slotOf Z "com/example/otayori/otayori/bench/PairTally" "late" "J" ≠ Jvm.RoadKit.slotOf Z "com/example/otayori/otayori/bench/PairTally" "messages" "I" := slot_ne (Or.inl (hw _ (List.mem_of_getElem? (i := 27) rfl))) (Or.inr (hw _ (List.mem_of_getElem? (i := 15) rfl))) (by decide) (t := .long) (t' := .int) (by decide) (by decide)
theorem sn_21 {a0 : Array Value} {Z : State} (hw : ∀ d ∈ tables_1, d.before a0 Z = true) : Jvm.RoadKit.slotOf Z "com/example/otayori/otayori/bench/PairTally" "outOfOrder" "J" ≠ Jvm.RoadKit.slotOf Z "com/example/otayori/otayori/bench/PairTally" "messages" "I" := slot_ne (Or.inl (hw _ (List.mem_of_getElem? (i := 44) rfl))) (Or.inr (hw _ (List.mem_of_getElem? (i := 15) rfl))) (by decide) (t := .long) (t' := .int) (by decide) (by decide)
theorem sn_22 {a0 : Array Value} {Z : State} (hw : ∀ d ∈ tables_1, d.before a0 Z = true) : Jvm.RoadKit.slotOf Z "com/example/otayori/otayori/bench/PairTally" "duplicated" "J" ≠ Jvm.RoadKit.slotOf Z "com/example/otayori/otayori/bench/PairTally" "messages" "I" := slot_ne (Or.inl (hw _ (List.mem_of_getElem? (i := 47) rfl))) (Or.inr (hw _ (List.mem_of_getElem? (i := 15) rfl))) (by decide) (t := .long) (t' := .int) (by decide) (by decide)
theorem sn_23 {a0 : Array Value} {Z : State} (hw : ∀ d ∈ tables_1, d.before a0 Z = true) : Jvm.RoadKit.slotOf Z "com/example/otayori/otayori/bench/PairTally" "lastDeliveryNanos" "J" ≠ Jvm.RoadKit.slotOf Z "com/example/otayori/otayori/bench/PairTally" "messages" "I" := slot_ne (Or.inl (hw _ (List.mem_of_getElem? (i := 66) rfl))) (Or.inr (hw _ (List.mem_of_getElem? (i := 15) rfl))) (by decide) (t := .long) (t' := .int) (by decide) (by decide)
theorem d1_22 : decode prog_3_method_1_code 22 = .ok (.aload_n 0, 1) := by decide +kernel
theorem d1_23 : decode prog_3_method_1_code 23 = .ok (.iload_n 1, 1) := by decide +kernel
theorem d1_24 : decode prog_3_method_1_code 24 = .ok (.bipush 64, 2) := by decide +kernel
theorem d1_26 : decode prog_3_method_1_code 26 = .ok (.iadd, 1) := by decide +kernel
theorem d1_27 : decode prog_3_method_1_code 27 = .ok (.iconst 1, 1) := by decide +kernel
theorem d1_28 : decode prog_3_method_1_code 28 = .ok (.isub, 1) := by decide +kernel
theorem d1_29 : decode prog_3_method_1_code 29 = .ok (.bipush 64, 2) := by decide +kernel
theorem d1_31 : decode prog_3_method_1_code 31 = .ok (.idiv, 1) := by decide +kernel
theorem d1_32 : decode prog_3_method_1_code 32 = .ok (.newarray .long, 2) := by decide +kernel
theorem d1_34 : decode prog_3_method_1_code 34 = .ok (.putfield 22, 3) := by decide +kernel
theorem sn_24 {a0 : Array Value} {Z : State} (hw : ∀ d ∈ tables_1, d.before a0 Z = true) : Jvm.RoadKit.slotOf Z "com/example/otayori/otayori/bench/PairTally" "highestSequence" "I" ≠ Jvm.RoadKit.slotOf Z "com/example/otayori/otayori/bench/PairTally" "seen" "[J" := slot_ne (Or.inl (hw _ (List.mem_of_getElem? (i := 10) rfl))) (Or.inr (hw _ (List.mem_of_getElem? (i := 18) rfl))) (by decide) (t := .int) (t' := (.array .long)) (by decide) (by decide)
theorem sn_25 {a0 : Array Value} {Z : State} (hw : ∀ d ∈ tables_1, d.before a0 Z = true) : Jvm.RoadKit.slotOf Z "com/example/otayori/otayori/bench/PairTally" "latenciesMicros" "[I" ≠ Jvm.RoadKit.slotOf Z "com/example/otayori/otayori/bench/PairTally" "seen" "[J" := slot_ne (Or.inl (hw _ (List.mem_of_getElem? (i := 13) rfl))) (Or.inr (hw _ (List.mem_of_getElem? (i := 18) rfl))) (by decide) (t := (.array .int)) (t' := (.array .long)) (by decide) (by decide)
theorem sn_26 {a0 : Array Value} {Z : State} (hw : ∀ d ∈ tables_1, d.before a0 Z = true) : Jvm.RoadKit.slotOf Z "com/example/otayori/otayori/bench/PairTally" "messages" "I" ≠ Jvm.RoadKit.slotOf Z "com/example/otayori/otayori/bench/PairTally" "seen" "[J" := slot_ne (Or.inr (hw _ (List.mem_of_getElem? (i := 15) rfl))) (Or.inr (hw _ (List.mem_of_getElem? (i := 18) rfl))) (by decide) (t := .int) (t' := (.array .long)) (by decide) (by decide)
theorem sn_27 {a0 : Array Value} {Z : State} (hw : ∀ d ∈ tables_1, d.before a0 Z = true) : Jvm.RoadKit.slotOf Z "com/example/otayori/otayori/bench/PairTally" "delivered" "J" ≠ Jvm.RoadKit.slotOf Z "com/example/otayori/otayori/bench/PairTally" "seen" "[J" := slot_ne (Or.inl (hw _ (List.mem_of_getElem? (i := 25) rfl))) (Or.inr (hw _ (List.mem_of_getElem? (i := 18) rfl))) (by decide) (t := .long) (t' := (.array .long)) (by decide) (by decide)
theorem sn_28 {a0 : Array Value} {Z : State} (hw : ∀ d ∈ tables_1, d.before a0 Z = true) : Jvm.RoadKit.slotOf Z "com/example/otayori/otayori/bench/PairTally" "late" "J" ≠ Jvm.RoadKit.slotOf Z "com/example/otayori/otayori/bench/PairTally" "seen" "[J" := slot_ne (Or.inl (hw _ (List.mem_of_getElem? (i := 27) rfl))) (Or.inr (hw _ (List.mem_of_getElem? (i := 18) rfl))) (by decide) (t := .long) (t' := (.array .long)) (by decide) (by decide)
theorem sn_29 {a0 : Array Value} {Z : State} (hw : ∀ d ∈ tables_1, d.before a0 Z = true) : Jvm.RoadKit.slotOf Z "com/example/otayori/otayori/bench/PairTally" "outOfOrder" "J" ≠ Jvm.RoadKit.slotOf Z "com/example/otayori/otayori/bench/PairTally" "seen" "[J" := slot_ne (Or.inl (hw _ (List.mem_of_getElem? (i := 44) rfl))) (Or.inr (hw _ (List.mem_of_getElem? (i := 18) rfl))) (by decide) (t := .long) (t' := (.array .long)) (by decide) (by decide)
theorem sn_30 {a0 : Array Value} {Z : State} (hw : ∀ d ∈ tables_1, d.before a0 Z = true) : Jvm.RoadKit.slotOf Z "com/example/otayori/otayori/bench/PairTally" "duplicated" "J" ≠ Jvm.RoadKit.slotOf Z "com/example/otayori/otayori/bench/PairTally" "seen" "[J" := slot_ne (Or.inl (hw _ (List.mem_of_getElem? (i := 47) rfl))) (Or.inr (hw _ (List.mem_of_getElem? (i := 18) rfl))) (by decide) (t := .long) (t' := (.array .long)) (by decide) (by decide)
theorem sn_31 {a0 : Array Value} {Z : State} (hw : ∀ d ∈ tables_1, d.before a0 Z = true) : Jvm.RoadKit.slotOf Z "com/example/otayori/otayori/bench/PairTally" "lastDeliveryNanos" "J" ≠ Jvm.RoadKit.slotOf Z "com/example/otayori/otayori/bench/PairTally" "seen" "[J" := slot_ne (Or.inl (hw _ (List.mem_of_getElem? (i := 66) rfl))) (Or.inr (hw _ (List.mem_of_getElem? (i := 18) rfl))) (by decide) (t := .long) (t' := (.array .long)) (by decide) (by decide)
theorem d1_37 : decode prog_3_method_1_code 37 = .ok (.return_, 1) := by decide +kernel
def Q1 (Z : State) (a1 : Addr) (u_highestSequence : Int32) (u_latenciesMicros : Value) (u_messages : Int32) (u_seen : Value) (u_delivered : Int64) (u_late : Int64) (u_outOfOrder : Int64) (u_duplicated : Int64) (u_lastDeliveryNanos : Int64) (h0 : Heap) (n0 : Nat) (v : Option Value) (h : Heap) (L : List Loc) : Prop := ∃ tl : Addr, ∃ kl : ClassId, ∃ ts : Addr, ∃ ks : ClassId, v = none ∧ Fr n0 L ∧ Keep h0 h [a1] ∧ Fld Z h a1 "com/example/otayori/otayori/bench/PairTally" "highestSequence" "I" (.int (-1 : Int32)) ∧ Fld Z h a1 "com/example/otayori/otayori/bench/PairTally" "latenciesMicros" "[I" (.ref tl) ∧ Fld Z h a1 "com/example/otayori/otayori/bench/PairTally" "messages" "I" (.int (8 : Int32)) ∧ Fld Z h a1 "com/example/otayori/otayori/bench/PairTally" "seen" "[J" (.ref ts) ∧ Fld Z h a1 "com/example/otayori/otayori/bench/PairTally" "delivered" "J" (.long u_delivered) ∧ Fld Z h a1 "com/example/otayori/otayori/bench/PairTally" "late" "J" (.long u_late) ∧ Fld Z h a1 "com/example/otayori/otayori/bench/PairTally" "outOfOrder" "J" (.long u_outOfOrder) ∧ Fld Z h a1 "com/example/otayori/otayori/bench/PairTally" "duplicated" "J" (.long u_duplicated) ∧ Fld Z h a1 "com/example/otayori/otayori/bench/PairTally" "lastDeliveryNanos" "J" (.long u_lastDeliveryNanos) ∧ h0.size ≤ tl ∧ n0 ≤ tl ∧ h0.size ≤ ts ∧ n0 ≤ ts ∧ tl ≠ ts ∧ (Arv Z h tl kl .int (16 : Int32) [(.int (0 : Int32)), (.int (0 : Int32)), (.int (0 : Int32)), (.int (0 : Int32)), (.int (0 : Int32)), (.int (0 : Int32)), (.int (0 : Int32)), (.int (0 : Int32)), (.int (0 : Int32)), (.int (0 : Int32)), (.int (0 : Int32)), (.int (0 : Int32)), (.int (0 : Int32)), (.int (0 : Int32)), (.int (0 : Int32)), (.int (0 : Int32))] (.int (0 : Int32))) ∧ (Arv Z h ts ks .long (1 : Int32) [(.long (0 : Int64))] (.long (0 : Int64)))
set_option maxRecDepth 65536 in
set_option maxHeartbeats 40000000 in
theorem rm1 (l : Launch) (Z : State) (a0 : Array Value) (hw : ∀ d ∈ tables_1, d.before a0 Z = true) (ws : List Jvm.Cond) (a1 : Addr) (u_highestSequence : Int32) (u_latenciesMicros : Value) (u_messages : Int32) (u_seen : Value) (u_delivered : Int64) (u_late : Int64) (u_outOfOrder : Int64) (u_duplicated : Int64) (u_lastDeliveryNanos : Int64) (h0 : Heap) (n0 : Nat) (Z0 : n0 ≤ h0.size) (E_a1 : Exa Z h0 a1 "com/example/otayori/otayori/bench/PairTally") (g_a1 : n0 ≤ a1) (F_a1_highestSequence : Fld Z h0 a1 "com/example/otayori/otayori/bench/PairTally" "highestSequence" "I" (.int u_highestSequence)) (F_a1_latenciesMicros : Fld Z h0 a1 "com/example/otayori/otayori/bench/PairTally" "latenciesMicros" "[I" u_latenciesMicros) (F_a1_messages : Fld Z h0 a1 "com/example/otayori/otayori/bench/PairTally" "messages" "I" (.int u_messages)) (F_a1_seen : Fld Z h0 a1 "com/example/otayori/otayori/bench/PairTally" "seen" "[J" u_seen) (F_a1_delivered : Fld Z h0 a1 "com/example/otayori/otayori/bench/PairTally" "delivered" "J" (.long u_delivered)) (F_a1_late : Fld Z h0 a1 "com/example/otayori/otayori/bench/PairTally" "late" "J" (.long u_late)) (F_a1_outOfOrder : Fld Z h0 a1 "com/example/otayori/otayori/bench/PairTally" "outOfOrder" "J" (.long u_outOfOrder)) (F_a1_duplicated : Fld Z h0 a1 "com/example/otayori/otayori/bench/PairTally" "duplicated" "J" (.long u_duplicated)) (F_a1_lastDeliveryNanos : Fld Z h0 a1 "com/example/otayori/otayori/bench/PairTally" "lastDeliveryNanos" "J" (.long u_lastDeliveryNanos)) :
    MetFree l (⟨"com/example/otayori/otayori/bench/PairTally", "<init>", "(I)V"⟩ : MethodName) (head1 (Jvm.Cond.code (⟨"com/example/otayori/otayori/bench/PairTally", "<init>", "(I)V"⟩ : MethodName) prog_3_method_1_code 2 none :: ws) ({ frames := 1, cells := 2, slots := 17, locals := 12 } : Room)) (fun a U => a = #[(.ref a1), (.int (8 : Int32))] ∧ Z.Warmed39 U.vm ∧ U.heap = h0) (fun _ _ _ _ _ => True) (fun _ U o U' => ∃ v L, o = .returned v ∧ Q1 Z a1 u_highestSequence u_latenciesMicros u_messages u_seen u_delivered u_late u_outOfOrder u_duplicated u_lastDeliveryNanos h0 n0 v U'.heap L ∧ FrameEnd U o U' L ({ frames := 1, cells := 2, slots := 17, locals := 12 } : Room).cells ({ frames := 1, cells := 2, slots := 17, locals := 12 } : Room).slots) := by
  refine MetFree.of_bodySF (plainFor_of_name pn_0) hisR ?_
  intro p e s m args below meth c s₁ Bd hml0 hP hK
  obtain ⟨rfl, hZ, hh⟩ := hP
  have hx := Bd.exec
  have hby := Bd.bytes
  have hml : c.maxLocals = 2 := hml0
  have hown : s.vm.findClass "com/example/otayori/otayori/bench/PairTally" = some m.cls := findClass_of_methodNamed Bd.named
  have hnm := (name_of_methodNamed Bd.named Bd.method).1
  have X0 : Stand p l e ({ frames := 1, cells := 2, slots := 17, locals := 12 } : Room) s m #[(.ref a1), (.int (8 : Int32))] below meth c s₁ [] 0 0 := Stand.of_body Bd
  have e0 : s₁.heap = h0 := by rw [← hh, Bd.state]; rfl
  have NF := Fr.nil n0
  have KP : Keep h0 h0 [a1] := Keep.refl h0 _
  refine WP.go ?_
  refine WP.cast (ef_1 m a1) ?_
  refine WP.name ?_
  intro G hG
  have bk1 : ∀ t, Steps p.tables e below (s₁.setTop (mkF m 1 #[.val (.ref a1), .val (.int (8 : Int32))] [(.ref a1)])) t → Steps p.tables e below (s₁.setTop (mkF m 0 #[.val (.ref a1), .val (.int (8 : Int32))] [])) t := fun t k => by
    refine XS.aloadN X0.here hx rfl (hb hby d1_0) rfl rfl ?_
    exact k
  refine WP.st bk1 ?_
  clear bk1
  obtain ⟨T2, X2, e2, st2⟩ := initO X0 hx hZ hown (hw _ (List.mem_of_getElem? (i := 6) rfl)) (hw _ (List.mem_of_getElem? (i := 7) rfl)) (hw _ (List.mem_of_getElem? (i := 8) rfl)) e0 (g := (mkF m 1 #[.val (.ref a1), .val (.int (8 : Int32))] [(.ref a1)])) rfl (by rw [hml]; rfl) rfl (hb hby d1_1) (by decide) (W := 0) (by show 2 * 0 + _ ≤ _; exact Nat.le_of_eq rfl) (by decide)
  refine WP.st st2 ?_
  clear st2
  show WP p.tables e below _ T2 (mkF m 4 #[.val (.ref a1), .val (.int (8 : Int32))] [])
  have bk3 : ∀ t, Steps p.tables e below (T2.setTop (mkF m 6 #[.val (.ref a1), .val (.int (8 : Int32))] [(.int (-1 : Int32)), (.ref a1)])) t → Steps p.tables e below (T2.setTop (mkF m 4 #[.val (.ref a1), .val (.int (8 : Int32))] [])) t := fun t k => by
    refine XS.aloadN X2.here hx rfl (hb hby d1_4) rfl rfl ?_
    refine XS.iconst X2.here hx rfl (hb hby d1_5) ?_
    exact k
  refine WP.st bk3 ?_
  clear bk3
  obtain ⟨T4, h4, X4, e4, W4, st4⟩ := putF X2 hx hZ hown (host := "") (Or.inl (hw _ (List.mem_of_getElem? (i := 9) rfl))) Via.refl e2 F_a1_highestSequence E_a1 (Or.inl (hw _ (List.mem_of_getElem? (i := 10) rfl))) (hw _ (List.mem_of_getElem? (i := 1) rfl)) (ty := .int) (by decide) rfl rfl (g := (mkF m 6 #[.val (.ref a1), .val (.int (8 : Int32))] [(.int (-1 : Int32)), (.ref a1)])) rfl rfl (hb hby d1_6)
  refine WP.st st4 ?_
  clear st4
  replace E_a1 := E_a1.wr W4
  replace F_a1_highestSequence := F_a1_highestSequence.same W4
  replace F_a1_latenciesMicros := F_a1_latenciesMicros.other W4 (Or.inr (sn_0 hw))
  replace F_a1_messages := F_a1_messages.other W4 (Or.inr (sn_1 hw))
  replace F_a1_seen := F_a1_seen.other W4 (Or.inr (sn_2 hw))
  replace F_a1_delivered := F_a1_delivered.other W4 (Or.inr (sn_3 hw))
  replace F_a1_late := F_a1_late.other W4 (Or.inr (sn_4 hw))
  replace F_a1_outOfOrder := F_a1_outOfOrder.other W4 (Or.inr (sn_5 hw))
  replace F_a1_duplicated := F_a1_duplicated.other W4 (Or.inr (sn_6 hw))
  replace F_a1_lastDeliveryNanos := F_a1_lastDeliveryNanos.other W4 (Or.inr (sn_7 hw))
  replace Z0 := Nat.le_trans Z0 (Keep.of_wr W4).1
  replace KP := KP.wr W4 (Or.inl (List.mem_of_getElem? (i := 0) rfl))
  replace NF := Fr.snoc X4 NF g_a1
  clear W4
  show WP p.tables e below _ T4 (mkF m 9 #[.val (.ref a1), .val (.int (8 : Int32))] [])
  have bk5 : ∀ t, Steps p.tables e below (T4.setTop (mkF m 12 #[.val (.ref a1), .val (.int (8 : Int32))] [(.int (16 : Int32)), (.ref a1)])) t → Steps p.tables e below (T4.setTop (mkF m 9 #[.val (.ref a1), .val (.int (8 : Int32))] [])) t := fun t k => by
    refine XS.aloadN X4.here hx rfl (hb hby d1_9) rfl rfl ?_
    refine XS.bipush X4.here hx rfl (hb hby d1_10) ?_
    exact k
  refine WP.st bk5 ?_
  clear bk5
  obtain ⟨T6, h6, k6, X6, e6, E6, A6, st6⟩ := newP X4 hx hZ (hw _ (List.mem_of_getElem? (i := 11) rfl)) e4 (g := (mkF m 12 #[.val (.ref a1), .val (.int (8 : Int32))] [(.int (16 : Int32)), (.ref a1)])) rfl (hb hby d1_12) rfl (by decide) (cap := 16) (by decide) (by decide) (by decide) (by decide)
  obtain ⟨b6, g6⟩ : ∃ z, z = h4.size := ⟨_, rfl⟩
  rw [← g6] at A6 st6
  refine WP.st st6 ?_
  clear st6
  have ne_a1_b6 : a1 ≠ b6 := Nat.ne_of_lt (Nat.lt_of_lt_of_le E_a1.lt (Nat.le_of_eq g6.symm))
  have g_b6 : n0 ≤ b6 := Nat.le_trans Z0 (Nat.le_of_eq g6.symm)
  have sz_b6 : h0.size ≤ b6 := Nat.le_trans KP.1 (Nat.le_of_eq g6.symm)
  replace E_a1 := E_a1.ext E6
  replace F_a1_highestSequence := F_a1_highestSequence.ext E6
  replace F_a1_latenciesMicros := F_a1_latenciesMicros.ext E6
  replace F_a1_messages := F_a1_messages.ext E6
  replace F_a1_seen := F_a1_seen.ext E6
  replace F_a1_delivered := F_a1_delivered.ext E6
  replace F_a1_late := F_a1_late.ext E6
  replace F_a1_outOfOrder := F_a1_outOfOrder.ext E6
  replace F_a1_duplicated := F_a1_duplicated.ext E6
  replace F_a1_lastDeliveryNanos := F_a1_lastDeliveryNanos.ext E6
  replace Z0 := Nat.le_trans Z0 E6.1
  replace KP := KP.ext E6
  have V_b6 : Arv Z h6 b6 k6 .int (16 : Int32) [(.int (0 : Int32)), (.int (0 : Int32)), (.int (0 : Int32)), (.int (0 : Int32)), (.int (0 : Int32)), (.int (0 : Int32)), (.int (0 : Int32)), (.int (0 : Int32)), (.int (0 : Int32)), (.int (0 : Int32)), (.int (0 : Int32)), (.int (0 : Int32)), (.int (0 : Int32)), (.int (0 : Int32)), (.int (0 : Int32)), (.int (0 : Int32))] (.int (0 : Int32)) := (Arv.new A6 (by decide)).pad (pad_rep [] (.int (0 : Int32)) 16)
  show WP p.tables e below _ T6 (mkF m 14 #[.val (.ref a1), .val (.int (8 : Int32))] [(.ref b6), (.ref a1)])
  obtain ⟨T7, h7, X7, e7, W7, st7⟩ := putF X6 hx hZ hown (host := "") (Or.inl (hw _ (List.mem_of_getElem? (i := 12) rfl))) Via.refl e6 F_a1_latenciesMicros E_a1 (Or.inl (hw _ (List.mem_of_getElem? (i := 13) rfl))) (hw _ (List.mem_of_getElem? (i := 1) rfl)) (ty := (.array .int)) (by decide) rfl rfl (g := (mkF m 14 #[.val (.ref a1), .val (.int (8 : Int32))] [(.ref b6), (.ref a1)])) rfl rfl (hb hby d1_14)
  refine WP.st st7 ?_
  clear st7
  replace E_a1 := E_a1.wr W7
  replace F_a1_highestSequence := F_a1_highestSequence.other W7 (Or.inr (sn_8 hw))
  replace F_a1_latenciesMicros := F_a1_latenciesMicros.same W7
  replace F_a1_messages := F_a1_messages.other W7 (Or.inr (sn_9 hw))
  replace F_a1_seen := F_a1_seen.other W7 (Or.inr (sn_10 hw))
  replace F_a1_delivered := F_a1_delivered.other W7 (Or.inr (sn_11 hw))
  replace F_a1_late := F_a1_late.other W7 (Or.inr (sn_12 hw))
  replace F_a1_outOfOrder := F_a1_outOfOrder.other W7 (Or.inr (sn_13 hw))
  replace F_a1_duplicated := F_a1_duplicated.other W7 (Or.inr (sn_14 hw))
  replace F_a1_lastDeliveryNanos := F_a1_lastDeliveryNanos.other W7 (Or.inr (sn_15 hw))
  replace V_b6 := V_b6.other W7 (Ne.symm ne_a1_b6)
  replace Z0 := Nat.le_trans Z0 (Keep.of_wr W7).1
  replace KP := KP.wr W7 (Or.inl (List.mem_of_getElem? (i := 0) rfl))
  replace NF := Fr.snoc X7 NF g_a1
  clear W7
  show WP p.tables e below _ T7 (mkF m 17 #[.val (.ref a1), .val (.int (8 : Int32))] [])
  have bk8 : ∀ t, Steps p.tables e below (T7.setTop (mkF m 19 #[.val (.ref a1), .val (.int (8 : Int32))] [(.int (8 : Int32)), (.ref a1)])) t → Steps p.tables e below (T7.setTop (mkF m 17 #[.val (.ref a1), .val (.int (8 : Int32))] [])) t := fun t k => by
    refine XS.aloadN X7.here hx rfl (hb hby d1_17) rfl rfl ?_
    refine XS.iloadN X7.here hx rfl (hb hby d1_18) rfl ?_
    exact k
  refine WP.st bk8 ?_
  clear bk8
  obtain ⟨T9, h9, X9, e9, W9, st9⟩ := putF X7 hx hZ hown (host := "") (Or.inl (hw _ (List.mem_of_getElem? (i := 14) rfl))) Via.refl e7 F_a1_messages E_a1 (Or.inr ⟨(hw _ (List.mem_of_getElem? (i := 15) rfl)), rfl, hnm⟩) (hw _ (List.mem_of_getElem? (i := 1) rfl)) (ty := .int) (by decide) rfl rfl (g := (mkF m 19 #[.val (.ref a1), .val (.int (8 : Int32))] [(.int (8 : Int32)), (.ref a1)])) rfl rfl (hb hby d1_19)
  refine WP.st st9 ?_
  clear st9
  replace E_a1 := E_a1.wr W9
  replace F_a1_highestSequence := F_a1_highestSequence.other W9 (Or.inr (sn_16 hw))
  replace F_a1_latenciesMicros := F_a1_latenciesMicros.other W9 (Or.inr (sn_17 hw))
  replace F_a1_messages := F_a1_messages.same W9
  replace F_a1_seen := F_a1_seen.other W9 (Or.inr (sn_18 hw))
  replace F_a1_delivered := F_a1_delivered.other W9 (Or.inr (sn_19 hw))
  replace F_a1_late := F_a1_late.other W9 (Or.inr (sn_20 hw))
  replace F_a1_outOfOrder := F_a1_outOfOrder.other W9 (Or.inr (sn_21 hw))
  replace F_a1_duplicated := F_a1_duplicated.other W9 (Or.inr (sn_22 hw))
  replace F_a1_lastDeliveryNanos := F_a1_lastDeliveryNanos.other W9 (Or.inr (sn_23 hw))
  replace V_b6 := V_b6.other W9 (Ne.symm ne_a1_b6)
  replace Z0 := Nat.le_trans Z0 (Keep.of_wr W9).1
  replace KP := KP.wr W9 (Or.inl (List.mem_of_getElem? (i := 0) rfl))
  replace NF := Fr.snoc X9 NF g_a1
  clear W9
  show WP p.tables e below _ T9 (mkF m 22 #[.val (.ref a1), .val (.int (8 : Int32))] [])
  have bk10 : ∀ t, Steps p.tables e below (T9.setTop (mkF m 27 #[.val (.ref a1), .val (.int (8 : Int32))] [(.int ((8 : Int32) + (64 : Int32))), (.ref a1)])) t → Steps p.tables e below (T9.setTop (mkF m 22 #[.val (.ref a1), .val (.int (8 : Int32))] [])) t := fun t k => by
    refine XS.aloadN X9.here hx rfl (hb hby d1_22) rfl rfl ?_
    refine XS.iloadN X9.here hx rfl (hb hby d1_23) rfl ?_
    refine XS.bipush X9.here hx rfl (hb hby d1_24) ?_
    refine XS.iadd X9.here hx rfl (hb hby d1_26) rfl ?_
    exact k
  refine WP.st bk10 ?_
  clear bk10
  rw [show ((8 : Int32) + (64 : Int32)) = (72 : Int32) from by decide]
  show WP p.tables e below _ T9 (mkF m 27 #[.val (.ref a1), .val (.int (8 : Int32))] [(.int (72 : Int32)), (.ref a1)])
  have bk11 : ∀ t, Steps p.tables e below (T9.setTop (mkF m 29 #[.val (.ref a1), .val (.int (8 : Int32))] [(.int ((72 : Int32) - (1 : Int32))), (.ref a1)])) t → Steps p.tables e below (T9.setTop (mkF m 27 #[.val (.ref a1), .val (.int (8 : Int32))] [(.int (72 : Int32)), (.ref a1)])) t := fun t k => by
    refine XS.iconst X9.here hx rfl (hb hby d1_27) ?_
    refine XS.isub X9.here hx rfl (hb hby d1_28) rfl ?_
    exact k
  refine WP.st bk11 ?_
  clear bk11
  rw [show ((72 : Int32) - (1 : Int32)) = (71 : Int32) from by decide]
  show WP p.tables e below _ T9 (mkF m 29 #[.val (.ref a1), .val (.int (8 : Int32))] [(.int (71 : Int32)), (.ref a1)])
  have bk12 : ∀ t, Steps p.tables e below (T9.setTop (mkF m 32 #[.val (.ref a1), .val (.int (8 : Int32))] [(.int ((71 : Int32) / (64 : Int32))), (.ref a1)])) t → Steps p.tables e below (T9.setTop (mkF m 29 #[.val (.ref a1), .val (.int (8 : Int32))] [(.int (71 : Int32)), (.ref a1)])) t := fun t k => by
    refine XS.bipush X9.here hx rfl (hb hby d1_29) ?_
    refine XS.idiv X9.here hx rfl (hb hby d1_31) rfl (by decide) ?_
    exact k
  refine WP.st bk12 ?_
  clear bk12
  rw [show ((71 : Int32) / (64 : Int32)) = (1 : Int32) from by decide]
  show WP p.tables e below _ T9 (mkF m 32 #[.val (.ref a1), .val (.int (8 : Int32))] [(.int (1 : Int32)), (.ref a1)])
  obtain ⟨T13, h13, k13, X13, e13, E13, A13, st13⟩ := newP X9 hx hZ (hw _ (List.mem_of_getElem? (i := 16) rfl)) e9 (g := (mkF m 32 #[.val (.ref a1), .val (.int (8 : Int32))] [(.int (1 : Int32)), (.ref a1)])) rfl (hb hby d1_32) rfl (by decide) (cap := 1) (by decide) (by decide) (by decide) (by decide)
  obtain ⟨b13, g13⟩ : ∃ z, z = h9.size := ⟨_, rfl⟩
  rw [← g13] at A13 st13
  refine WP.st st13 ?_
  clear st13
  have ne_a1_b13 : a1 ≠ b13 := Nat.ne_of_lt (Nat.lt_of_lt_of_le E_a1.lt (Nat.le_of_eq g13.symm))
  have ne_b6_b13 : b6 ≠ b13 := Nat.ne_of_lt (Nat.lt_of_lt_of_le V_b6.lt (Nat.le_of_eq g13.symm))
  have g_b13 : n0 ≤ b13 := Nat.le_trans Z0 (Nat.le_of_eq g13.symm)
  have sz_b13 : h0.size ≤ b13 := Nat.le_trans KP.1 (Nat.le_of_eq g13.symm)
  replace E_a1 := E_a1.ext E13
  replace F_a1_highestSequence := F_a1_highestSequence.ext E13
  replace F_a1_latenciesMicros := F_a1_latenciesMicros.ext E13
  replace F_a1_messages := F_a1_messages.ext E13
  replace F_a1_seen := F_a1_seen.ext E13
  replace F_a1_delivered := F_a1_delivered.ext E13
  replace F_a1_late := F_a1_late.ext E13
  replace F_a1_outOfOrder := F_a1_outOfOrder.ext E13
  replace F_a1_duplicated := F_a1_duplicated.ext E13
  replace F_a1_lastDeliveryNanos := F_a1_lastDeliveryNanos.ext E13
  replace V_b6 := V_b6.ext E13
  replace Z0 := Nat.le_trans Z0 E13.1
  replace KP := KP.ext E13
  have V_b13 : Arv Z h13 b13 k13 .long (1 : Int32) [(.long (0 : Int64))] (.long (0 : Int64)) := (Arv.new A13 (by decide)).pad (pad_rep [] (.long (0 : Int64)) 1)
  show WP p.tables e below _ T13 (mkF m 34 #[.val (.ref a1), .val (.int (8 : Int32))] [(.ref b13), (.ref a1)])
  obtain ⟨T14, h14, X14, e14, W14, st14⟩ := putF X13 hx hZ hown (host := "") (Or.inl (hw _ (List.mem_of_getElem? (i := 17) rfl))) Via.refl e13 F_a1_seen E_a1 (Or.inr ⟨(hw _ (List.mem_of_getElem? (i := 18) rfl)), rfl, hnm⟩) (hw _ (List.mem_of_getElem? (i := 1) rfl)) (ty := (.array .long)) (by decide) rfl rfl (g := (mkF m 34 #[.val (.ref a1), .val (.int (8 : Int32))] [(.ref b13), (.ref a1)])) rfl rfl (hb hby d1_34)
  refine WP.st st14 ?_
  clear st14
  replace E_a1 := E_a1.wr W14
  replace F_a1_highestSequence := F_a1_highestSequence.other W14 (Or.inr (sn_24 hw))
  replace F_a1_latenciesMicros := F_a1_latenciesMicros.other W14 (Or.inr (sn_25 hw))
  replace F_a1_messages := F_a1_messages.other W14 (Or.inr (sn_26 hw))
  replace F_a1_seen := F_a1_seen.same W14
  replace F_a1_delivered := F_a1_delivered.other W14 (Or.inr (sn_27 hw))
  replace F_a1_late := F_a1_late.other W14 (Or.inr (sn_28 hw))
  replace F_a1_outOfOrder := F_a1_outOfOrder.other W14 (Or.inr (sn_29 hw))
  replace F_a1_duplicated := F_a1_duplicated.other W14 (Or.inr (sn_30 hw))
  replace F_a1_lastDeliveryNanos := F_a1_lastDeliveryNanos.other W14 (Or.inr (sn_31 hw))
  replace V_b6 := V_b6.other W14 (Ne.symm ne_a1_b6)
  replace V_b13 := V_b13.other W14 (Ne.symm ne_a1_b13)
  replace Z0 := Nat.le_trans Z0 (Keep.of_wr W14).1
  replace KP := KP.wr W14 (Or.inl (List.mem_of_getElem? (i := 0) rfl))
  replace NF := Fr.snoc X14 NF g_a1
  clear W14
  show WP p.tables e below _ T14 (mkF m 37 #[.val (.ref a1), .val (.int (8 : Int32))] [])
  subst hG
  obtain ⟨fs, hr, hrun, hended, hW, hsame⟩ := X14.leave (v := none) (fun _ => rfl)
  refine WP.fin ⟨_, _, ?_, hrun, hended, _, _, rfl, ?_, ⟨_, rfl⟩, hW, hsame.mono (by decide) (by decide)⟩
  · exact X14.returnOut hx Bd.returns (hb hby d1_37) hr
  · show Q1 Z a1 u_highestSequence u_latenciesMicros u_messages u_seen u_delivered u_late u_outOfOrder u_duplicated u_lastDeliveryNanos h0 n0 _ T14.heap _
    rw [e14]
    exact ⟨b6, k6, b13, k13, rfl, NF, KP, F_a1_highestSequence, F_a1_latenciesMicros, F_a1_messages, F_a1_seen, F_a1_delivered, F_a1_late, F_a1_outOfOrder, F_a1_duplicated, F_a1_lastDeliveryNanos, sz_b6, g_b6, sz_b13, g_b13, ne_b6_b13, V_b6, V_b13⟩
theorem ef_4 (m : MethodId) (q1 : Int64) (q2 : Int64) : entryFrame m #[(.long q1), (.long q2)] 4 = mkF m 0 #[.val (.long q1), .second, .val (.long q2), .second] [] := by first | (simp [entryFrame, mkF, argsToLocals, Value.category]; done) | rfl
theorem d4_0 : decode jdk_29_method_66_code 0 = .ok (.lload_n 0, 1) := by decide +kernel
theorem d4_1 : decode jdk_29_method_66_code 1 = .ok (.lload_n 2, 1) := by decide +kernel
theorem d4_2 : decode jdk_29_method_66_code 2 = .ok (.lcmp, 1) := by decide +kernel
theorem d4_3 : decode jdk_29_method_66_code 3 = .ok (.ifCond .lt 7, 3) := by decide +kernel
theorem d4_10 : decode jdk_29_method_66_code 10 = .ok (.lload_n 2, 1) := by decide +kernel
theorem d4_11 : decode jdk_29_method_66_code 11 = .ok (.lreturn, 1) := by decide +kernel
theorem d4_6 : decode jdk_29_method_66_code 6 = .ok (.lload_n 0, 1) := by decide +kernel
theorem d4_7 : decode jdk_29_method_66_code 7 = .ok (.goto 4, 3) := by decide +kernel
def Q4 (Z : State) (q1 : Int64) (q2 : Int64) (h0 : Heap) (n0 : Nat) (v : Option Value) (h : Heap) (L : List Loc) : Prop := v = some (.long (own_maxl q1 q2)) ∧ Fr n0 L ∧ h = h0
set_option maxRecDepth 65536 in
set_option maxHeartbeats 40000000 in
theorem rm4 (l : Launch) (Z : State) (a0 : Array Value) (hw : ∀ d ∈ tables_1, d.before a0 Z = true) (ws : List Jvm.Cond) (q1 : Int64) (q2 : Int64) (h0 : Heap) (n0 : Nat) (Z0 : n0 ≤ h0.size)  :
    MetFree l (⟨"java/lang/Math", "max", "(JJ)J"⟩ : MethodName) (head1 (Jvm.Cond.code (⟨"java/lang/Math", "max", "(JJ)J"⟩ : MethodName) jdk_29_method_66_code 4 (some .long) :: ws) ({ frames := 0, cells := 0, slots := 0, locals := 0 } : Room)) (fun a U => a = #[(.long q1), (.long q2)] ∧ Z.Warmed39 U.vm ∧ U.heap = h0) (fun _ _ _ _ _ => True) (fun _ U o U' => ∃ v L, o = .returned v ∧ Q4 Z q1 q2 h0 n0 v U'.heap L ∧ FrameEnd U o U' L ({ frames := 0, cells := 0, slots := 0, locals := 0 } : Room).cells ({ frames := 0, cells := 0, slots := 0, locals := 0 } : Room).slots) := by
  refine MetFree.of_bodySF (Jvm.Free.JP.mathPlain rfl (by decide +kernel)) hisR ?_
  intro p e s m args below meth c s₁ Bd hml0 hP hK
  obtain ⟨rfl, hZ, hh⟩ := hP
  have hx := Bd.exec
  have hby := Bd.bytes
  have hml : c.maxLocals = 4 := hml0
  have hown : s.vm.findClass "java/lang/Math" = some m.cls := findClass_of_methodNamed Bd.named
  have hnm := (name_of_methodNamed Bd.named Bd.method).1
  have X0 : Stand p l e ({ frames := 0, cells := 0, slots := 0, locals := 0 } : Room) s m #[(.long q1), (.long q2)] below meth c s₁ [] 0 0 := Stand.of_body Bd
  have e0 : s₁.heap = h0 := by rw [← hh, Bd.state]; rfl
  have NF := Fr.nil n0
  refine WP.go ?_
  refine WP.cast (ef_4 m q1 q2) ?_
  refine WP.name ?_
  intro G hG
  have bk16 : ∀ t, Steps p.tables e below (s₁.setTop (mkF m 3 #[.val (.long q1), .second, .val (.long q2), .second] [(.int (lcmpW q1 q2))])) t → Steps p.tables e below (s₁.setTop (mkF m 0 #[.val (.long q1), .second, .val (.long q2), .second] [])) t := fun t k => by
    refine XS.lloadN X0.here hx rfl (hb hby d4_0) rfl ?_
    refine XS.lloadN X0.here hx rfl (hb hby d4_1) rfl ?_
    refine XS.lcmp X0.here hx rfl (hb hby d4_2) rfl ?_
    exact k
  refine WP.st bk16 ?_
  clear bk16
  by_cases hc15 : (lcmpW q1 q2) < (0 : Int32)
  · skip
    have bk17 : ∀ t, Steps p.tables e below (s₁.setTop (mkF m 11 #[.val (.long q1), .second, .val (.long q2), .second] [(.long q2)])) t → Steps p.tables e below (s₁.setTop (mkF m 3 #[.val (.long q1), .second, .val (.long q2), .second] [(.int (lcmpW q1 q2))])) t := fun t k => by
      refine XS.ifYes X0.here hx rfl (pc0 := 3) (pc' := 10) rfl (hb hby d4_3) rfl ((if0 _ _).trans (tlt hc15).1) (by decide) (by decide) ?_
      refine XS.lloadN X0.here hx rfl (hb hby d4_10) rfl ?_
      exact k
    refine WP.st bk17 ?_
    clear bk17
    subst hG
    obtain ⟨fs, hr, hrun, hended, hW, hsame⟩ := X0.leave (v := some (.long q2)) (fun h => by rw [Bd.returns] at h; cases h)
    refine WP.fin ⟨_, _, ?_, hrun, hended, _, _, rfl, ?_, ⟨_, rfl⟩, hW, hsame.mono (by decide) (by decide)⟩
    · exact X0.lreturnOut hx Bd.returns (hb hby d4_11) hr
    · show Q4 Z q1 q2 h0 n0 _ s₁.heap _
      rw [e0]
      exact ⟨(by simp [own_maxl, hc15]), NF, rfl⟩
  · skip
    have bk18 : ∀ t, Steps p.tables e below (s₁.setTop (mkF m 11 #[.val (.long q1), .second, .val (.long q2), .second] [(.long q1)])) t → Steps p.tables e below (s₁.setTop (mkF m 3 #[.val (.long q1), .second, .val (.long q2), .second] [(.int (lcmpW q1 q2))])) t := fun t k => by
      refine XS.ifNo X0.here hx rfl (hb hby d4_3) rfl ((if0 _ _).trans (flt hc15).1) ?_
      refine XS.lloadN X0.here hx rfl (hb hby d4_6) rfl ?_
      refine XS.goto X0.here hx rfl (pc0 := 7) (pc' := 11) rfl (hb hby d4_7) (by decide) (by decide) ?_
      exact k
    refine WP.st bk18 ?_
    clear bk18
    subst hG
    obtain ⟨fs, hr, hrun, hended, hW, hsame⟩ := X0.leave (v := some (.long q1)) (fun h => by rw [Bd.returns] at h; cases h)
    refine WP.fin ⟨_, _, ?_, hrun, hended, _, _, rfl, ?_, ⟨_, rfl⟩, hW, hsame.mono (by decide) (by decide)⟩
    · exact X0.lreturnOut hx Bd.returns (hb hby d4_11) hr
    · show Q4 Z q1 q2 h0 n0 _ s₁.heap _
      rw [e0]
      exact ⟨(by simp [own_maxl, hc15]), NF, rfl⟩
theorem ef_5 (m : MethodId) (q1 : Int64) (q2 : Int64) : entryFrame m #[(.long q1), (.long q2)] 4 = mkF m 0 #[.val (.long q1), .second, .val (.long q2), .second] [] := by first | (simp [entryFrame, mkF, argsToLocals, Value.category]; done) | rfl
theorem d5_0 : decode jdk_29_method_70_code 0 = .ok (.lload_n 0, 1) := by decide +kernel
theorem d5_1 : decode jdk_29_method_70_code 1 = .ok (.lload_n 2, 1) := by decide +kernel
theorem d5_2 : decode jdk_29_method_70_code 2 = .ok (.lcmp, 1) := by decide +kernel
theorem d5_3 : decode jdk_29_method_70_code 3 = .ok (.ifCond .gt 7, 3) := by decide +kernel
theorem d5_10 : decode jdk_29_method_70_code 10 = .ok (.lload_n 2, 1) := by decide +kernel
theorem d5_11 : decode jdk_29_method_70_code 11 = .ok (.lreturn, 1) := by decide +kernel
theorem d5_6 : decode jdk_29_method_70_code 6 = .ok (.lload_n 0, 1) := by decide +kernel
theorem d5_7 : decode jdk_29_method_70_code 7 = .ok (.goto 4, 3) := by decide +kernel
def Q5 (Z : State) (q1 : Int64) (q2 : Int64) (h0 : Heap) (n0 : Nat) (v : Option Value) (h : Heap) (L : List Loc) : Prop := v = some (.long (own_minl q1 q2)) ∧ Fr n0 L ∧ h = h0
set_option maxRecDepth 65536 in
set_option maxHeartbeats 40000000 in
theorem rm5 (l : Launch) (Z : State) (a0 : Array Value) (hw : ∀ d ∈ tables_1, d.before a0 Z = true) (ws : List Jvm.Cond) (q1 : Int64) (q2 : Int64) (h0 : Heap) (n0 : Nat) (Z0 : n0 ≤ h0.size)  :
    MetFree l (⟨"java/lang/Math", "min", "(JJ)J"⟩ : MethodName) (head1 (Jvm.Cond.code (⟨"java/lang/Math", "min", "(JJ)J"⟩ : MethodName) jdk_29_method_70_code 4 (some .long) :: ws) ({ frames := 0, cells := 0, slots := 0, locals := 0 } : Room)) (fun a U => a = #[(.long q1), (.long q2)] ∧ Z.Warmed39 U.vm ∧ U.heap = h0) (fun _ _ _ _ _ => True) (fun _ U o U' => ∃ v L, o = .returned v ∧ Q5 Z q1 q2 h0 n0 v U'.heap L ∧ FrameEnd U o U' L ({ frames := 0, cells := 0, slots := 0, locals := 0 } : Room).cells ({ frames := 0, cells := 0, slots := 0, locals := 0 } : Room).slots) := by
  refine MetFree.of_bodySF (Jvm.Free.JP.mathPlain rfl (by decide +kernel)) hisR ?_
  intro p e s m args below meth c s₁ Bd hml0 hP hK
  obtain ⟨rfl, hZ, hh⟩ := hP
  have hx := Bd.exec
  have hby := Bd.bytes
  have hml : c.maxLocals = 4 := hml0
  have hown : s.vm.findClass "java/lang/Math" = some m.cls := findClass_of_methodNamed Bd.named
  have hnm := (name_of_methodNamed Bd.named Bd.method).1
  have X0 : Stand p l e ({ frames := 0, cells := 0, slots := 0, locals := 0 } : Room) s m #[(.long q1), (.long q2)] below meth c s₁ [] 0 0 := Stand.of_body Bd
  have e0 : s₁.heap = h0 := by rw [← hh, Bd.state]; rfl
  have NF := Fr.nil n0
  refine WP.go ?_
  refine WP.cast (ef_5 m q1 q2) ?_
  refine WP.name ?_
  intro G hG
  have bk20 : ∀ t, Steps p.tables e below (s₁.setTop (mkF m 3 #[.val (.long q1), .second, .val (.long q2), .second] [(.int (lcmpW q1 q2))])) t → Steps p.tables e below (s₁.setTop (mkF m 0 #[.val (.long q1), .second, .val (.long q2), .second] [])) t := fun t k => by
    refine XS.lloadN X0.here hx rfl (hb hby d5_0) rfl ?_
    refine XS.lloadN X0.here hx rfl (hb hby d5_1) rfl ?_
    refine XS.lcmp X0.here hx rfl (hb hby d5_2) rfl ?_
    exact k
  refine WP.st bk20 ?_
  clear bk20
  by_cases hc19 : (0 : Int32) < (lcmpW q1 q2)
  · skip
    have bk21 : ∀ t, Steps p.tables e below (s₁.setTop (mkF m 11 #[.val (.long q1), .second, .val (.long q2), .second] [(.long q2)])) t → Steps p.tables e below (s₁.setTop (mkF m 3 #[.val (.long q1), .second, .val (.long q2), .second] [(.int (lcmpW q1 q2))])) t := fun t k => by
      refine XS.ifYes X0.here hx rfl (pc0 := 3) (pc' := 10) rfl (hb hby d5_3) rfl ((if0 _ _).trans (tlt hc19).2.2.1) (by decide) (by decide) ?_
      refine XS.lloadN X0.here hx rfl (hb hby d5_10) rfl ?_
      exact k
    refine WP.st bk21 ?_
    clear bk21
    subst hG
    obtain ⟨fs, hr, hrun, hended, hW, hsame⟩ := X0.leave (v := some (.long q2)) (fun h => by rw [Bd.returns] at h; cases h)
    refine WP.fin ⟨_, _, ?_, hrun, hended, _, _, rfl, ?_, ⟨_, rfl⟩, hW, hsame.mono (by decide) (by decide)⟩
    · exact X0.lreturnOut hx Bd.returns (hb hby d5_11) hr
    · show Q5 Z q1 q2 h0 n0 _ s₁.heap _
      rw [e0]
      exact ⟨(by simp [own_minl, hc19]), NF, rfl⟩
  · skip
    have bk22 : ∀ t, Steps p.tables e below (s₁.setTop (mkF m 11 #[.val (.long q1), .second, .val (.long q2), .second] [(.long q1)])) t → Steps p.tables e below (s₁.setTop (mkF m 3 #[.val (.long q1), .second, .val (.long q2), .second] [(.int (lcmpW q1 q2))])) t := fun t k => by
      refine XS.ifNo X0.here hx rfl (hb hby d5_3) rfl ((if0 _ _).trans (flt hc19).2.2.1) ?_
      refine XS.lloadN X0.here hx rfl (hb hby d5_6) rfl ?_
      refine XS.goto X0.here hx rfl (pc0 := 7) (pc' := 11) rfl (hb hby d5_7) (by decide) (by decide) ?_
      exact k
    refine WP.st bk22 ?_
    clear bk22
    subst hG
    obtain ⟨fs, hr, hrun, hended, hW, hsame⟩ := X0.leave (v := some (.long q1)) (fun h => by rw [Bd.returns] at h; cases h)
    refine WP.fin ⟨_, _, ?_, hrun, hended, _, _, rfl, ?_, ⟨_, rfl⟩, hW, hsame.mono (by decide) (by decide)⟩
    · exact X0.lreturnOut hx Bd.returns (hb hby d5_11) hr
    · show Q5 Z q1 q2 h0 n0 _ s₁.heap _
      rw [e0]
      exact ⟨(by simp [own_minl, hc19]), NF, rfl⟩
theorem ef_9 (m : MethodId) (p1 : Int32) (p2 : Int32) : entryFrame m #[(.int p1), (.int p2)] 2 = mkF m 0 #[.val (.int p1), .val (.int p2)] [] := by first | (simp [entryFrame, mkF, argsToLocals, Value.category]; done) | rfl
theorem d9_0 : decode jdk_29_method_69_code 0 = .ok (.iload_n 0, 1) := by decide +kernel
theorem d9_1 : decode jdk_29_method_69_code 1 = .ok (.iload_n 1, 1) := by decide +kernel
theorem d9_2 : decode jdk_29_method_69_code 2 = .ok (.if_icmp .gt 7, 3) := by decide +kernel
theorem d9_9 : decode jdk_29_method_69_code 9 = .ok (.iload_n 1, 1) := by decide +kernel
theorem d9_10 : decode jdk_29_method_69_code 10 = .ok (.ireturn, 1) := by decide +kernel
theorem d9_5 : decode jdk_29_method_69_code 5 = .ok (.iload_n 0, 1) := by decide +kernel
theorem d9_6 : decode jdk_29_method_69_code 6 = .ok (.goto 4, 3) := by decide +kernel
def Q9 (Z : State) (p1 : Int32) (p2 : Int32) (h0 : Heap) (n0 : Nat) (v : Option Value) (h : Heap) (L : List Loc) : Prop := v = some (.int (own_min p1 p2)) ∧ Fr n0 L ∧ h = h0
set_option maxRecDepth 65536 in
set_option maxHeartbeats 40000000 in
theorem rm9 (l : Launch) (Z : State) (a0 : Array Value) (hw : ∀ d ∈ tables_1, d.before a0 Z = true) (ws : List Jvm.Cond) (p1 : Int32) (p2 : Int32) (h0 : Heap) (n0 : Nat) (Z0 : n0 ≤ h0.size)  :
    MetFree l (⟨"java/lang/Math", "min", "(II)I"⟩ : MethodName) (head1 (Jvm.Cond.code (⟨"java/lang/Math", "min", "(II)I"⟩ : MethodName) jdk_29_method_69_code 2 (some .int) :: ws) ({ frames := 0, cells := 0, slots := 0, locals := 0 } : Room)) (fun a U => a = #[(.int p1), (.int p2)] ∧ Z.Warmed39 U.vm ∧ U.heap = h0) (fun _ _ _ _ _ => True) (fun _ U o U' => ∃ v L, o = .returned v ∧ Q9 Z p1 p2 h0 n0 v U'.heap L ∧ FrameEnd U o U' L ({ frames := 0, cells := 0, slots := 0, locals := 0 } : Room).cells ({ frames := 0, cells := 0, slots := 0, locals := 0 } : Room).slots) := by
  refine MetFree.of_bodySF (Jvm.Free.JP.mathPlain rfl (by decide +kernel)) hisR ?_
  intro p e s m args below meth c s₁ Bd hml0 hP hK
  obtain ⟨rfl, hZ, hh⟩ := hP
  have hx := Bd.exec
  have hby := Bd.bytes
  have hml : c.maxLocals = 2 := hml0
  have hown : s.vm.findClass "java/lang/Math" = some m.cls := findClass_of_methodNamed Bd.named
  have hnm := (name_of_methodNamed Bd.named Bd.method).1
  have X0 : Stand p l e ({ frames := 0, cells := 0, slots := 0, locals := 0 } : Room) s m #[(.int p1), (.int p2)] below meth c s₁ [] 0 0 := Stand.of_body Bd
  have e0 : s₁.heap = h0 := by rw [← hh, Bd.state]; rfl
  have NF := Fr.nil n0
  refine WP.go ?_
  refine WP.cast (ef_9 m p1 p2) ?_
  refine WP.name ?_
  intro G hG
  have bk24 : ∀ t, Steps p.tables e below (s₁.setTop (mkF m 2 #[.val (.int p1), .val (.int p2)] [(.int p2), (.int p1)])) t → Steps p.tables e below (s₁.setTop (mkF m 0 #[.val (.int p1), .val (.int p2)] [])) t := fun t k => by
    refine XS.iloadN X0.here hx rfl (hb hby d9_0) rfl ?_
    refine XS.iloadN X0.here hx rfl (hb hby d9_1) rfl ?_
    exact k
  refine WP.st bk24 ?_
  clear bk24
  by_cases hc23 : p2 < p1
  · skip
    have bk25 : ∀ t, Steps p.tables e below (s₁.setTop (mkF m 10 #[.val (.int p1), .val (.int p2)] [(.int p2)])) t → Steps p.tables e below (s₁.setTop (mkF m 2 #[.val (.int p1), .val (.int p2)] [(.int p2), (.int p1)])) t := fun t k => by
      refine XS.icmpYes X0.here hx rfl (pc0 := 2) (pc' := 9) rfl (hb hby d9_2) rfl (tlt hc23).2.2.1 (by decide) (by decide) ?_
      refine XS.iloadN X0.here hx rfl (hb hby d9_9) rfl ?_
      exact k
    refine WP.st bk25 ?_
    clear bk25
    subst hG
    obtain ⟨fs, hr, hrun, hended, hW, hsame⟩ := X0.leave (v := some (.int p2)) (fun h => by rw [Bd.returns] at h; cases h)
    refine WP.fin ⟨_, _, ?_, hrun, hended, _, _, rfl, ?_, ⟨_, rfl⟩, hW, hsame.mono (by decide) (by decide)⟩
    · exact retI X0 hx Bd.returns (hb hby d9_10) hr
    · show Q9 Z p1 p2 h0 n0 _ s₁.heap _
      rw [e0]
      exact ⟨(by simp [own_min, hc23]), NF, rfl⟩
  · skip
    have bk26 : ∀ t, Steps p.tables e below (s₁.setTop (mkF m 10 #[.val (.int p1), .val (.int p2)] [(.int p1)])) t → Steps p.tables e below (s₁.setTop (mkF m 2 #[.val (.int p1), .val (.int p2)] [(.int p2), (.int p1)])) t := fun t k => by
      refine XS.icmpNo X0.here hx rfl (hb hby d9_2) rfl (flt hc23).2.2.1 ?_
      refine XS.iloadN X0.here hx rfl (hb hby d9_5) rfl ?_
      refine XS.goto X0.here hx rfl (pc0 := 6) (pc' := 10) rfl (hb hby d9_6) (by decide) (by decide) ?_
      exact k
    refine WP.st bk26 ?_
    clear bk26
    subst hG
    obtain ⟨fs, hr, hrun, hended, hW, hsame⟩ := X0.leave (v := some (.int p1)) (fun h => by rw [Bd.returns] at h; cases h)
    refine WP.fin ⟨_, _, ?_, hrun, hended, _, _, rfl, ?_, ⟨_, rfl⟩, hW, hsame.mono (by decide) (by decide)⟩
    · exact retI X0 hx Bd.returns (hb hby d9_10) hr
    · show Q9 Z p1 p2 h0 n0 _ s₁.heap _
      rw [e0]
      exact ⟨(by simp [own_min, hc23]), NF, rfl⟩
theorem ef_6 (m : MethodId) (q1 : Int64) : entryFrame m #[(.long q1)] 4 = mkF m 0 #[.val (.long q1), .second, .unset, .unset] [] := by first | (simp [entryFrame, mkF, argsToLocals, Value.category]; done) | rfl
theorem pn_1 : plainName "com/example/otayori/otayori/bench/PairTallyLatenciesPinLaw" = true := by first | (simp [plainName, overriddenIn]; done) | decide +kernel
theorem d6_0 : decode method_2_code 0 = .ok (.lload_n 0, 1) := by decide +kernel
theorem d6_1 : decode method_2_code 1 = .ok (.ldc2_w 7, 3) := by decide +kernel
theorem d6_4 : decode method_2_code 4 = .ok (.ldiv, 1) := by decide +kernel
theorem d6_5 : decode method_2_code 5 = .ok (.lstore_n 2, 1) := by decide +kernel
theorem d6_6 : decode method_2_code 6 = .ok (.lload_n 2, 1) := by decide +kernel
theorem d6_7 : decode method_2_code 7 = .ok (.lconst 0, 1) := by decide +kernel
theorem d6_8 : decode method_2_code 8 = .ok (.lcmp, 1) := by decide +kernel
theorem d6_9 : decode method_2_code 9 = .ok (.ifCond .ge 5, 3) := by decide +kernel
theorem d6_12 : decode method_2_code 12 = .ok (.iconst 0, 1) := by decide +kernel
theorem d6_13 : decode method_2_code 13 = .ok (.ireturn, 1) := by decide +kernel
theorem d6_14 : decode method_2_code 14 = .ok (.lload_n 2, 1) := by decide +kernel
theorem d6_15 : decode method_2_code 15 = .ok (.ldc2_w 9, 3) := by decide +kernel
theorem d6_18 : decode method_2_code 18 = .ok (.lcmp, 1) := by decide +kernel
theorem d6_19 : decode method_2_code 19 = .ok (.ifCond .le 6, 3) := by decide +kernel
theorem d6_22 : decode method_2_code 22 = .ok (.ldc 11, 2) := by decide +kernel
theorem d6_24 : decode method_2_code 24 = .ok (.ireturn, 1) := by decide +kernel
theorem d6_25 : decode method_2_code 25 = .ok (.lload_n 2, 1) := by decide +kernel
theorem d6_26 : decode method_2_code 26 = .ok (.l2i, 1) := by decide +kernel
theorem d6_27 : decode method_2_code 27 = .ok (.ireturn, 1) := by decide +kernel
def Q6 (Z : State) (q1 : Int64) (h0 : Heap) (n0 : Nat) (v : Option Value) (h : Heap) (L : List Loc) : Prop := v = some (.int (own_mic q1)) ∧ Fr n0 L ∧ h = h0
set_option maxRecDepth 65536 in
set_option maxHeartbeats 40000000 in
theorem rm6 (l : Launch) (Z : State) (a0 : Array Value) (hw : ∀ d ∈ tables_1, d.before a0 Z = true) (ws : List Jvm.Cond) (q1 : Int64) (h0 : Heap) (n0 : Nat) (Z0 : n0 ≤ h0.size)  :
    MetFree l (⟨"com/example/otayori/otayori/bench/PairTallyLatenciesPinLaw", "micros", "(J)I"⟩ : MethodName) (head1 (Jvm.Cond.code (⟨"com/example/otayori/otayori/bench/PairTallyLatenciesPinLaw", "micros", "(J)I"⟩ : MethodName) method_2_code 4 (some .int) :: ws) ({ frames := 0, cells := 0, slots := 0, locals := 0 } : Room)) (fun a U => a = #[(.long q1)] ∧ Z.Warmed39 U.vm ∧ U.heap = h0) (fun _ _ _ _ _ => True) (fun _ U o U' => ∃ v L, o = .returned v ∧ Q6 Z q1 h0 n0 v U'.heap L ∧ FrameEnd U o U' L ({ frames := 0, cells := 0, slots := 0, locals := 0 } : Room).cells ({ frames := 0, cells := 0, slots := 0, locals := 0 } : Room).slots) := by
  refine MetFree.of_bodySF (plainFor_of_name pn_1) hisR ?_
  intro p e s m args below meth c s₁ Bd hml0 hP hK
  obtain ⟨rfl, hZ, hh⟩ := hP
  have hx := Bd.exec
  have hby := Bd.bytes
  have hml : c.maxLocals = 4 := hml0
  have hown : s.vm.findClass "com/example/otayori/otayori/bench/PairTallyLatenciesPinLaw" = some m.cls := findClass_of_methodNamed Bd.named
  have hnm := (name_of_methodNamed Bd.named Bd.method).1
  have X0 : Stand p l e ({ frames := 0, cells := 0, slots := 0, locals := 0 } : Room) s m #[(.long q1)] below meth c s₁ [] 0 0 := Stand.of_body Bd
  have e0 : s₁.heap = h0 := by rw [← hh, Bd.state]; rfl
  have NF := Fr.nil n0
  refine WP.go ?_
  refine WP.cast (ef_6 m q1) ?_
  refine WP.name ?_
  intro G hG
  have bk28 : ∀ t, Steps p.tables e below (s₁.setTop (mkF m 9 #[.val (.long q1), .second, .val (.long (q1 / (1000 : Int64))), .second] [(.int (lcmpW (q1 / (1000 : Int64)) (0 : Int64)))])) t → Steps p.tables e below (s₁.setTop (mkF m 0 #[.val (.long q1), .second, .unset, .unset] [])) t := fun t k => by
    refine XS.lloadN X0.here hx rfl (hb hby d6_0) rfl ?_
    refine X0.ldc2Long hx hown (mvT hZ (hw _ (List.mem_of_getElem? (i := 41) rfl))) (g := (mkF m 1 #[.val (.long q1), .second, .unset, .unset] [(.long q1)])) rfl (hb hby d6_1) _ ?_
    refine XS.ldiv X0.here hx rfl (hb hby d6_4) rfl (by decide) ?_
    refine XS.lstoreN X0.here hx rfl (hb hby d6_5) rfl (l' := #[.val (.long q1), .second, .val (.long (q1 / (1000 : Int64))), .second]) rfl ?_
    show Steps p.tables e below (s₁.setTop (mkF m 6 #[.val (.long q1), .second, .val (.long (q1 / (1000 : Int64))), .second] [])) t
    refine XS.lloadN X0.here hx rfl (hb hby d6_6) rfl ?_
    refine XS.lconst X0.here hx rfl (hb hby d6_7) ?_
    refine XS.lcmp X0.here hx rfl (hb hby d6_8) rfl ?_
    exact k
  refine WP.st bk28 ?_
  clear bk28
  by_cases hc27 : (lcmpW (q1 / (1000 : Int64)) (0 : Int64)) < (0 : Int32)
  · skip
    have bk29 : ∀ t, Steps p.tables e below (s₁.setTop (mkF m 13 #[.val (.long q1), .second, .val (.long (q1 / (1000 : Int64))), .second] [(.int (0 : Int32))])) t → Steps p.tables e below (s₁.setTop (mkF m 9 #[.val (.long q1), .second, .val (.long (q1 / (1000 : Int64))), .second] [(.int (lcmpW (q1 / (1000 : Int64)) (0 : Int64)))])) t := fun t k => by
      refine XS.ifNo X0.here hx rfl (hb hby d6_9) rfl ((if0 _ _).trans (tlt hc27).2.1) ?_
      refine XS.iconst X0.here hx rfl (hb hby d6_12) ?_
      exact k
    refine WP.st bk29 ?_
    clear bk29
    subst hG
    obtain ⟨fs, hr, hrun, hended, hW, hsame⟩ := X0.leave (v := some (.int (0 : Int32))) (fun h => by rw [Bd.returns] at h; cases h)
    refine WP.fin ⟨_, _, ?_, hrun, hended, _, _, rfl, ?_, ⟨_, rfl⟩, hW, hsame.mono (by decide) (by decide)⟩
    · exact retI X0 hx Bd.returns (hb hby d6_13) hr
    · show Q6 Z q1 h0 n0 _ s₁.heap _
      rw [e0]
      exact ⟨(by simp [own_mic, hc27]), NF, rfl⟩
  · skip
    have bk31 : ∀ t, Steps p.tables e below (s₁.setTop (mkF m 19 #[.val (.long q1), .second, .val (.long (q1 / (1000 : Int64))), .second] [(.int (lcmpW (q1 / (1000 : Int64)) (2147483647 : Int64)))])) t → Steps p.tables e below (s₁.setTop (mkF m 9 #[.val (.long q1), .second, .val (.long (q1 / (1000 : Int64))), .second] [(.int (lcmpW (q1 / (1000 : Int64)) (0 : Int64)))])) t := fun t k => by
      refine XS.ifYes X0.here hx rfl (pc0 := 9) (pc' := 14) rfl (hb hby d6_9) rfl ((if0 _ _).trans (flt hc27).2.1) (by decide) (by decide) ?_
      refine XS.lloadN X0.here hx rfl (hb hby d6_14) rfl ?_
      refine X0.ldc2Long hx hown (mvT hZ (hw _ (List.mem_of_getElem? (i := 42) rfl))) (g := (mkF m 15 #[.val (.long q1), .second, .val (.long (q1 / (1000 : Int64))), .second] [(.long (q1 / (1000 : Int64)))])) rfl (hb hby d6_15) _ ?_
      refine XS.lcmp X0.here hx rfl (hb hby d6_18) rfl ?_
      exact k
    refine WP.st bk31 ?_
    clear bk31
    by_cases hc30 : (0 : Int32) < (lcmpW (q1 / (1000 : Int64)) (2147483647 : Int64))
    · skip
      have bk32 : ∀ t, Steps p.tables e below (s₁.setTop (mkF m 24 #[.val (.long q1), .second, .val (.long (q1 / (1000 : Int64))), .second] [(.int (2147483647 : Int32))])) t → Steps p.tables e below (s₁.setTop (mkF m 19 #[.val (.long q1), .second, .val (.long (q1 / (1000 : Int64))), .second] [(.int (lcmpW (q1 / (1000 : Int64)) (2147483647 : Int64)))])) t := fun t k => by
        refine XS.ifNo X0.here hx rfl (hb hby d6_19) rfl ((if0 _ _).trans (tlt hc30).2.2.2) ?_
        refine X0.ldcInt hx hown (mvT hZ (hw _ (List.mem_of_getElem? (i := 64) rfl))) (g := (mkF m 22 #[.val (.long q1), .second, .val (.long (q1 / (1000 : Int64))), .second] [])) rfl (hb hby d6_22) _ ?_
        exact k
      refine WP.st bk32 ?_
      clear bk32
      subst hG
      obtain ⟨fs, hr, hrun, hended, hW, hsame⟩ := X0.leave (v := some (.int (2147483647 : Int32))) (fun h => by rw [Bd.returns] at h; cases h)
      refine WP.fin ⟨_, _, ?_, hrun, hended, _, _, rfl, ?_, ⟨_, rfl⟩, hW, hsame.mono (by decide) (by decide)⟩
      · exact retI X0 hx Bd.returns (hb hby d6_24) hr
      · show Q6 Z q1 h0 n0 _ s₁.heap _
        rw [e0]
        exact ⟨(by simp [own_mic, hc27, hc30]), NF, rfl⟩
    · skip
      have bk33 : ∀ t, Steps p.tables e below (s₁.setTop (mkF m 27 #[.val (.long q1), .second, .val (.long (q1 / (1000 : Int64))), .second] [(.int ((q1 / (1000 : Int64)).toInt32))])) t → Steps p.tables e below (s₁.setTop (mkF m 19 #[.val (.long q1), .second, .val (.long (q1 / (1000 : Int64))), .second] [(.int (lcmpW (q1 / (1000 : Int64)) (2147483647 : Int64)))])) t := fun t k => by
        refine XS.ifYes X0.here hx rfl (pc0 := 19) (pc' := 25) rfl (hb hby d6_19) rfl ((if0 _ _).trans (flt hc30).2.2.2) (by decide) (by decide) ?_
        refine XS.lloadN X0.here hx rfl (hb hby d6_25) rfl ?_
        refine XS.l2i X0.here hx rfl (hb hby d6_26) rfl ?_
        exact k
      refine WP.st bk33 ?_
      clear bk33
      subst hG
      obtain ⟨fs, hr, hrun, hended, hW, hsame⟩ := X0.leave (v := some (.int ((q1 / (1000 : Int64)).toInt32))) (fun h => by rw [Bd.returns] at h; cases h)
      refine WP.fin ⟨_, _, ?_, hrun, hended, _, _, rfl, ?_, ⟨_, rfl⟩, hW, hsame.mono (by decide) (by decide)⟩
      · exact retI X0 hx Bd.returns (hb hby d6_27) hr
      · show Q6 Z q1 h0 n0 _ s₁.heap _
        rw [e0]
        exact ⟨(by simp [own_mic, hc27, hc30]), NF, rfl⟩
theorem ef_8k0 (m : MethodId) (a1 : Addr) : entryFrame m #[(.ref a1), (.int (0 : Int32))] 3 = mkF m 0 #[.val (.ref a1), .val (.int (0 : Int32)), .unset] [] := by first | (simp [entryFrame, mkF, argsToLocals, Value.category]; done) | rfl
theorem pn_2 : plainName "java/util/Arrays" = true := by first | (simp [plainName, overriddenIn]; done) | decide +kernel
theorem d8_0 : decode jdk_65_method_123_code 0 = .ok (.iload_n 1, 1) := by decide +kernel
theorem d8_1 : decode jdk_65_method_123_code 1 = .ok (.aload_n 0, 1) := by decide +kernel
theorem d8_2 : decode jdk_65_method_123_code 2 = .ok (.arraylength, 1) := by decide +kernel
theorem d8_3 : decode jdk_65_method_123_code 3 = .ok (.if_icmp .ne 11, 3) := by decide +kernel
theorem d8_14 : decode jdk_65_method_123_code 14 = .ok (.iload_n 1, 1) := by decide +kernel
theorem d8_15 : decode jdk_65_method_123_code 15 = .ok (.newarray .int, 2) := by decide +kernel
theorem d8_17 : decode jdk_65_method_123_code 17 = .ok (.astore_n 2, 1) := by decide +kernel
theorem d8_18 : decode jdk_65_method_123_code 18 = .ok (.aload_n 0, 1) := by decide +kernel
theorem d8_19 : decode jdk_65_method_123_code 19 = .ok (.iconst 0, 1) := by decide +kernel
theorem d8_20 : decode jdk_65_method_123_code 20 = .ok (.aload_n 2, 1) := by decide +kernel
theorem d8_21 : decode jdk_65_method_123_code 21 = .ok (.iconst 0, 1) := by decide +kernel
theorem d8_22 : decode jdk_65_method_123_code 22 = .ok (.aload_n 0, 1) := by decide +kernel
theorem d8_23 : decode jdk_65_method_123_code 23 = .ok (.arraylength, 1) := by decide +kernel
theorem d8_24 : decode jdk_65_method_123_code 24 = .ok (.iload_n 1, 1) := by decide +kernel
theorem d8_25 : decode jdk_65_method_123_code 25 = .ok (.invokestatic 304, 3) := by decide +kernel
theorem pd_0 : parseMethodDescriptor "(II)I" = some ⟨[.int, .int], some .int⟩ := by decide +kernel
theorem d8_28 : decode jdk_65_method_123_code 28 = .ok (.invokestatic 150, 3) := by decide +kernel
theorem d8_31 : decode jdk_65_method_123_code 31 = .ok (.aload_n 2, 1) := by decide +kernel
theorem d8_32 : decode jdk_65_method_123_code 32 = .ok (.areturn, 1) := by decide +kernel
def Q8k0 (Z : State) (a1 : Addr) (kl : ClassId) (v0 : Value) (v1 : Value) (v2 : Value) (v3 : Value) (v4 : Value) (v5 : Value) (v6 : Value) (v7 : Value) (v8 : Value) (v9 : Value) (v10 : Value) (v11 : Value) (v12 : Value) (v13 : Value) (v14 : Value) (v15 : Value) (h0 : Heap) (n0 : Nat) (v : Option Value) (h : Heap) (L : List Loc) : Prop := ∃ r : Addr, ∃ kr : ClassId, v = some (.ref r) ∧ Fr n0 L ∧ Keep h0 h [] ∧ h0.size ≤ r ∧ (Arv Z h r kr .int (0 : Int32) [] (.int (0 : Int32)))
set_option maxRecDepth 65536 in
set_option maxHeartbeats 40000000 in
theorem rm8k0 (l : Launch) (Z : State) (a0 : Array Value) (hw : ∀ d ∈ tables_1, d.before a0 Z = true) (ws : List Jvm.Cond) (a1 : Addr) (kl : ClassId) (v0 : Value) (v1 : Value) (v2 : Value) (v3 : Value) (v4 : Value) (v5 : Value) (v6 : Value) (v7 : Value) (v8 : Value) (v9 : Value) (v10 : Value) (v11 : Value) (v12 : Value) (v13 : Value) (v14 : Value) (v15 : Value) (h0 : Heap) (n0 : Nat) (Z0 : n0 ≤ h0.size) (V_a1 : Arv Z h0 a1 kl .int (16 : Int32) [v0, v1, v2, v3, v4, v5, v6, v7, v8, v9, v10, v11, v12, v13, v14, v15] (.int (0 : Int32))) :
    MetFree l (⟨"java/util/Arrays", "copyOf", "([II)[I"⟩ : MethodName) (head1 (Jvm.Cond.code (⟨"java/util/Arrays", "copyOf", "([II)[I"⟩ : MethodName) jdk_65_method_123_code 3 (some (.array .int)) :: ws) ({ frames := 1, cells := 1, slots := 0, locals := 18 } : Room)) (fun a U => a = #[(.ref a1), (.int (0 : Int32))] ∧ Z.Warmed39 U.vm ∧ U.heap = h0) (fun _ _ _ _ _ => True) (fun _ U o U' => ∃ v L, o = .returned v ∧ Q8k0 Z a1 kl v0 v1 v2 v3 v4 v5 v6 v7 v8 v9 v10 v11 v12 v13 v14 v15 h0 n0 v U'.heap L ∧ FrameEnd U o U' L ({ frames := 1, cells := 1, slots := 0, locals := 18 } : Room).cells ({ frames := 1, cells := 1, slots := 0, locals := 18 } : Room).slots) := by
  refine MetFree.of_bodySF (plainFor_of_name pn_2) hisR ?_
  intro p e s m args below meth c s₁ Bd hml0 hP hK
  obtain ⟨rfl, hZ, hh⟩ := hP
  have hx := Bd.exec
  have hby := Bd.bytes
  have hml : c.maxLocals = 3 := hml0
  have hown : s.vm.findClass "java/util/Arrays" = some m.cls := findClass_of_methodNamed Bd.named
  have hnm := (name_of_methodNamed Bd.named Bd.method).1
  have X0 : Stand p l e ({ frames := 1, cells := 1, slots := 0, locals := 18 } : Room) s m #[(.ref a1), (.int (0 : Int32))] below meth c s₁ [] 0 0 := Stand.of_body Bd
  have e0 : s₁.heap = h0 := by rw [← hh, Bd.state]; rfl
  have NF := Fr.nil n0
  have KP : Keep h0 h0 [] := Keep.refl h0 _
  refine WP.go ?_
  refine WP.cast (ef_8k0 m a1) ?_
  refine WP.name ?_
  intro G hG
  have bk34 : ∀ t, Steps p.tables e below (s₁.setTop (mkF m 2 #[.val (.ref a1), .val (.int (0 : Int32)), .unset] [(.ref a1), (.int (0 : Int32))])) t → Steps p.tables e below (s₁.setTop (mkF m 0 #[.val (.ref a1), .val (.int (0 : Int32)), .unset] [])) t := fun t k => by
    refine XS.iloadN X0.here hx rfl (hb hby d8_0) rfl ?_
    refine XS.aloadN X0.here hx rfl (hb hby d8_1) rfl rfl ?_
    exact k
  refine WP.st bk34 ?_
  clear bk34
  obtain ⟨cl35, Ar35, len35⟩ := V_a1.len
  have bk36 : ∀ t, Steps p.tables e below (s₁.setTop (mkF m 15 #[.val (.ref a1), .val (.int (0 : Int32)), .unset] [(.int (0 : Int32))])) t → Steps p.tables e below (s₁.setTop (mkF m 2 #[.val (.ref a1), .val (.int (0 : Int32)), .unset] [(.ref a1), (.int (0 : Int32))])) t := fun t k => by
    refine X0.arraylength hx (by rw [e0]; exact Ar35.1) (State.isArrayOf_alike hZ.alike Ar35.2.1) (g := (mkF m 2 #[.val (.ref a1), .val (.int (0 : Int32)), .unset] [(.ref a1), (.int (0 : Int32))])) rfl rfl (hb hby d8_2) _ ?_
    rw [len35]
    refine XS.icmpYes X0.here hx rfl (pc0 := 3) (pc' := 14) rfl (hb hby d8_3) rfl (feq (by decide : ¬ ((0 : Int32) = (16 : Int32)))).2 (by decide) (by decide) ?_
    refine XS.iloadN X0.here hx rfl (hb hby d8_14) rfl ?_
    exact k
  refine WP.st bk36 ?_
  clear bk36
  obtain ⟨T37, h37, k37, X37, e37, E37, A37, st37⟩ := newP X0 hx hZ (hw _ (List.mem_of_getElem? (i := 11) rfl)) e0 (g := (mkF m 15 #[.val (.ref a1), .val (.int (0 : Int32)), .unset] [(.int (0 : Int32))])) rfl (hb hby d8_15) rfl (by decide) (cap := 0) (by decide) (by decide) (by decide) (by decide)
  obtain ⟨b37, g37⟩ : ∃ z, z = h0.size := ⟨_, rfl⟩
  rw [← g37] at A37 st37
  refine WP.st st37 ?_
  clear st37
  have ne_a1_b37 : a1 ≠ b37 := Nat.ne_of_lt (Nat.lt_of_lt_of_le V_a1.lt (Nat.le_of_eq g37.symm))
  have g_b37 : n0 ≤ b37 := Nat.le_trans Z0 (Nat.le_of_eq g37.symm)
  have sz_b37 : h0.size ≤ b37 := Nat.le_trans KP.1 (Nat.le_of_eq g37.symm)
  replace V_a1 := V_a1.ext E37
  replace Z0 := Nat.le_trans Z0 E37.1
  replace KP := KP.ext E37
  have V_b37 : Arv Z h37 b37 k37 .int (0 : Int32) [] (.int (0 : Int32)) := (Arv.new A37 (by decide)).pad (pad_rep [] (.int (0 : Int32)) 0)
  show WP p.tables e below _ T37 (mkF m 17 #[.val (.ref a1), .val (.int (0 : Int32)), .unset] [(.ref b37)])
  have bk38 : ∀ t, Steps p.tables e below (T37.setTop (mkF m 23 #[.val (.ref a1), .val (.int (0 : Int32)), .val (.ref b37)] [(.ref a1), (.int (0 : Int32)), (.ref b37), (.int (0 : Int32)), (.ref a1)])) t → Steps p.tables e below (T37.setTop (mkF m 17 #[.val (.ref a1), .val (.int (0 : Int32)), .unset] [(.ref b37)])) t := fun t k => by
    refine XS.astoreN X37.here hx rfl (hb hby d8_17) rfl rfl (l' := #[.val (.ref a1), .val (.int (0 : Int32)), .val (.ref b37)]) rfl ?_
    refine XS.aloadN X37.here hx rfl (hb hby d8_18) rfl rfl ?_
    refine XS.iconst X37.here hx rfl (hb hby d8_19) ?_
    refine XS.aloadN X37.here hx rfl (hb hby d8_20) rfl rfl ?_
    show Steps p.tables e below (T37.setTop (mkF m 21 #[.val (.ref a1), .val (.int (0 : Int32)), .val (.ref b37)] [(.ref b37), (.int (0 : Int32)), (.ref a1)])) t
    refine XS.iconst X37.here hx rfl (hb hby d8_21) ?_
    refine XS.aloadN X37.here hx rfl (hb hby d8_22) rfl rfl ?_
    exact k
  refine WP.st bk38 ?_
  clear bk38
  obtain ⟨cl39, Ar39, len39⟩ := V_a1.len
  have bk40 : ∀ t, Steps p.tables e below (T37.setTop (mkF m 25 #[.val (.ref a1), .val (.int (0 : Int32)), .val (.ref b37)] [(.int (0 : Int32)), (.int (16 : Int32)), (.int (0 : Int32)), (.ref b37), (.int (0 : Int32)), (.ref a1)])) t → Steps p.tables e below (T37.setTop (mkF m 23 #[.val (.ref a1), .val (.int (0 : Int32)), .val (.ref b37)] [(.ref a1), (.int (0 : Int32)), (.ref b37), (.int (0 : Int32)), (.ref a1)])) t := fun t k => by
    refine X37.arraylength hx (by rw [e37]; exact Ar39.1) (State.isArrayOf_alike hZ.alike Ar39.2.1) (g := (mkF m 23 #[.val (.ref a1), .val (.int (0 : Int32)), .val (.ref b37)] [(.ref a1), (.int (0 : Int32)), (.ref b37), (.int (0 : Int32)), (.ref a1)])) rfl rfl (hb hby d8_23) _ ?_
    rw [len39]
    refine XS.iloadN X37.here hx rfl (hb hby d8_24) rfl ?_
    exact k
  refine WP.st bk40 ?_
  clear bk40
  obtain ⟨_, _, ⟨T41, L41, k41, n41⟩, -, X41, ⟨Lc41, hQ41, l41, y41, z41⟩, st41⟩ := Jvm.LawKit.callS X37 hx (y := (⟨"java/lang/Math", "min", "(II)I"⟩ : MethodName)) hown (mvT hZ (hw _ (List.mem_of_getElem? (i := 57) rfl))) (mvT hZ (hw _ (List.mem_of_getElem? (i := 58) rfl))) (mvT hZ (hw _ (List.mem_of_getElem? (i := 32) rfl))) (mvT hZ (hw _ (List.mem_of_getElem? (i := 59) rfl))) (by decide) (backOf (W := 4) (rm9 l Z a0 hw [] (16 : Int32) (0 : Int32) h37 n0 Z0 ) hZ (hw _ (List.mem_of_getElem? (i := 59) rfl)) (hw _ (List.mem_of_getElem? (i := 32) rfl)) (by decide) (by decide)) (g := (mkF m 25 #[.val (.ref a1), .val (.int (0 : Int32)), .val (.ref b37)] [(.int (0 : Int32)), (.int (16 : Int32)), (.int (0 : Int32)), (.ref b37), (.int (0 : Int32)), (.ref a1)])) rfl (by rw [hml]; rfl) (argsL := [(.int (16 : Int32)), (.int (0 : Int32))]) (rest := [(.int (0 : Int32)), (.ref b37), (.int (0 : Int32)), (.ref a1)]) (lenOf pd_0 rfl) rfl (by show 2 * 0 + _ ≤ _; exact Nat.le_of_eq rfl) (hb hby d8_25) (fun _ _ => ⟨rfl, e37, (by decide : 1 + 0 ≤ _), (by decide : 0 + 0 ≤ _)⟩)
  dsimp only [Pt.U, Pt.locs, Pt.cells, Pt.slots] at X41 l41 y41 z41 st41 hQ41
  subst l41 y41 z41
  obtain ⟨rfl, Nq41, Kq41⟩ := hQ41
  replace NF := Fr.app NF Nq41
  clear Nq41
  refine WP.st st41 ?_
  clear st41
  replace Kq41 := Kq41.trans (rfl : h37 = h37)
  show WP p.tables e below _ T41 (mkF m 28 #[.val (.ref a1), .val (.int (0 : Int32)), .val (.ref b37)] [(.int (own_min (16 : Int32) (0 : Int32))), (.int (0 : Int32)), (.ref b37), (.int (0 : Int32)), (.ref a1)])
  rw [show (own_min (16 : Int32) (0 : Int32)) = (0 : Int32) from by decide]
  show WP p.tables e below _ T41 (mkF m 28 #[.val (.ref a1), .val (.int (0 : Int32)), .val (.ref b37)] [(.int (0 : Int32)), (.int (0 : Int32)), (.ref b37), (.int (0 : Int32)), (.ref a1)])
  obtain ⟨T42, h42, Lq42, X42, e42, Nq42, Kq42, Vq42, st42⟩ := cpA X41 hx hZ hown (hw _ (List.mem_of_getElem? (i := 60) rfl)) (hw _ (List.mem_of_getElem? (i := 63) rfl)) (hw _ (List.mem_of_getElem? (i := 61) rfl)) (hw _ (List.mem_of_getElem? (i := 62) rfl)) Kq41 V_a1 V_b37 (Or.inl ⟨rfl, rfl⟩) (by decide) (by decide) (by decide) (by decide) (by decide) (us := []) rfl (Nat.le_of_ble_eq_true rfl) NF g_b37 (g := (mkF m 28 #[.val (.ref a1), .val (.int (0 : Int32)), .val (.ref b37)] [(.int (0 : Int32)), (.int (0 : Int32)), (.ref b37), (.int (0 : Int32)), (.ref a1)])) rfl (by rw [hml]; rfl) rfl (hb hby d8_28) (by decide) (W := 0) (by show 2 * 0 + _ ≤ _; exact Nat.le_of_eq rfl) (by decide)
  refine WP.st st42 ?_
  clear st42
  replace NF := Nq42
  replace Vq42 : Arv Z h42 b37 k37 .int (0 : Int32) [] (.int (0 : Int32)) := Vq42
  clear V_b37
  replace V_a1 := V_a1.keep Kq42 (by exact ninS ne_a1_b37 (nin0))
  replace Z0 := Nat.le_trans Z0 Kq42.1
  replace KP := KP.trans Kq42 (allS (Or.inr sz_b37) all0)
  have V_b37 := Vq42
  clear Vq42 Kq42
  show WP p.tables e below _ T42 (mkF m 31 #[.val (.ref a1), .val (.int (0 : Int32)), .val (.ref b37)] [])
  have bk43 : ∀ t, Steps p.tables e below (T42.setTop (mkF m 32 #[.val (.ref a1), .val (.int (0 : Int32)), .val (.ref b37)] [(.ref b37)])) t → Steps p.tables e below (T42.setTop (mkF m 31 #[.val (.ref a1), .val (.int (0 : Int32)), .val (.ref b37)] [])) t := fun t k => by
    refine XS.aloadN X42.here hx rfl (hb hby d8_31) rfl rfl ?_
    exact k
  refine WP.st bk43 ?_
  clear bk43
  subst hG
  obtain ⟨fs, hr, hrun, hended, hW, hsame⟩ := X42.leave (v := some (.ref b37)) (fun h => by rw [Bd.returns] at h; cases h)
  refine WP.fin ⟨_, _, ?_, hrun, hended, _, _, rfl, ?_, ⟨_, rfl⟩, hW, hsame.mono (by decide) (by decide)⟩
  · exact retOut X42 hx Bd.returns rfl (Or.inr (Or.inr (Or.inr (Or.inr ⟨rfl, rfl, rfl⟩)))) (hb hby d8_32) hr
  · show Q8k0 Z a1 kl v0 v1 v2 v3 v4 v5 v6 v7 v8 v9 v10 v11 v12 v13 v14 v15 h0 n0 _ T42.heap _
    rw [e42]
    exact ⟨b37, k37, rfl, NF, KP, sz_b37, V_b37⟩
theorem ef_7k0 (m : MethodId) (a1 : Addr) : entryFrame m #[(.ref a1)] 1 = mkF m 0 #[.val (.ref a1)] [] := by first | (simp [entryFrame, mkF, argsToLocals, Value.category]; done) | rfl
theorem d7_0 : decode prog_3_method_9_code 0 = .ok (.aload_n 0, 1) := by decide +kernel
theorem d7_1 : decode prog_3_method_9_code 1 = .ok (.getfield 13, 3) := by decide +kernel
theorem d7_4 : decode prog_3_method_9_code 4 = .ok (.aload_n 0, 1) := by decide +kernel
theorem d7_5 : decode prog_3_method_9_code 5 = .ok (.getfield 30, 3) := by decide +kernel
theorem d7_8 : decode prog_3_method_9_code 8 = .ok (.aload_n 0, 1) := by decide +kernel
theorem d7_9 : decode prog_3_method_9_code 9 = .ok (.getfield 33, 3) := by decide +kernel
theorem d7_12 : decode prog_3_method_9_code 12 = .ok (.ladd, 1) := by decide +kernel
theorem d7_13 : decode prog_3_method_9_code 13 = .ok (.l2i, 1) := by decide +kernel
theorem d7_14 : decode prog_3_method_9_code 14 = .ok (.invokestatic 36, 3) := by decide +kernel
theorem pd_1 : parseMethodDescriptor "([II)[I" = some ⟨[(.array .int), .int], some (.array .int)⟩ := by decide +kernel
theorem d7_17 : decode prog_3_method_9_code 17 = .ok (.areturn, 1) := by decide +kernel
def Q7k0 (Z : State) (a1 : Addr) (tl : Addr) (kl : ClassId) (u_delivered : Int64) (u_late : Int64) (v0 : Value) (v1 : Value) (v2 : Value) (v3 : Value) (v4 : Value) (v5 : Value) (v6 : Value) (v7 : Value) (v8 : Value) (v9 : Value) (v10 : Value) (v11 : Value) (v12 : Value) (v13 : Value) (v14 : Value) (v15 : Value) (h0 : Heap) (n0 : Nat) (v : Option Value) (h : Heap) (L : List Loc) : Prop := ∃ r : Addr, ∃ kr : ClassId, v = some (.ref r) ∧ Fr n0 L ∧ Keep h0 h [] ∧ h0.size ≤ r ∧ (Arv Z h r kr .int (0 : Int32) [] (.int (0 : Int32)))
set_option maxRecDepth 65536 in
set_option maxHeartbeats 40000000 in
theorem rm7k0 (l : Launch) (Z : State) (a0 : Array Value) (hw : ∀ d ∈ tables_1, d.before a0 Z = true) (ws : List Jvm.Cond) (a1 : Addr) (tl : Addr) (kl : ClassId) (u_delivered : Int64) (u_late : Int64) (v0 : Value) (v1 : Value) (v2 : Value) (v3 : Value) (v4 : Value) (v5 : Value) (v6 : Value) (v7 : Value) (v8 : Value) (v9 : Value) (v10 : Value) (v11 : Value) (v12 : Value) (v13 : Value) (v14 : Value) (v15 : Value) (h0 : Heap) (n0 : Nat) (Z0 : n0 ≤ h0.size) (F_a1_latenciesMicros : Fld Z h0 a1 "com/example/otayori/otayori/bench/PairTally" "latenciesMicros" "[I" (.ref tl)) (F_a1_delivered : Fld Z h0 a1 "com/example/otayori/otayori/bench/PairTally" "delivered" "J" (.long u_delivered)) (F_a1_late : Fld Z h0 a1 "com/example/otayori/otayori/bench/PairTally" "late" "J" (.long u_late)) (V_tl : Arv Z h0 tl kl .int (16 : Int32) [v0, v1, v2, v3, v4, v5, v6, v7, v8, v9, v10, v11, v12, v13, v14, v15] (.int (0 : Int32))) (hde : u_delivered + u_late = (0 : Int64)) :
    MetFree l (⟨"com/example/otayori/otayori/bench/PairTally", "latencies", "()[I"⟩ : MethodName) (head1 (Jvm.Cond.code (⟨"com/example/otayori/otayori/bench/PairTally", "latencies", "()[I"⟩ : MethodName) prog_3_method_9_code 1 (some (.array .int)) :: ws) ({ frames := 2, cells := 1, slots := 0, locals := 32 } : Room)) (fun a U => a = #[(.ref a1)] ∧ Z.Warmed39 U.vm ∧ U.heap = h0) (fun _ _ _ _ _ => True) (fun _ U o U' => ∃ v L, o = .returned v ∧ Q7k0 Z a1 tl kl u_delivered u_late v0 v1 v2 v3 v4 v5 v6 v7 v8 v9 v10 v11 v12 v13 v14 v15 h0 n0 v U'.heap L ∧ FrameEnd U o U' L ({ frames := 2, cells := 1, slots := 0, locals := 32 } : Room).cells ({ frames := 2, cells := 1, slots := 0, locals := 32 } : Room).slots) := by
  refine MetFree.of_bodySF (plainFor_of_name pn_0) hisR ?_
  intro p e s m args below meth c s₁ Bd hml0 hP hK
  obtain ⟨rfl, hZ, hh⟩ := hP
  have hx := Bd.exec
  have hby := Bd.bytes
  have hml : c.maxLocals = 1 := hml0
  have hown : s.vm.findClass "com/example/otayori/otayori/bench/PairTally" = some m.cls := findClass_of_methodNamed Bd.named
  have hnm := (name_of_methodNamed Bd.named Bd.method).1
  have X0 : Stand p l e ({ frames := 2, cells := 1, slots := 0, locals := 32 } : Room) s m #[(.ref a1)] below meth c s₁ [] 0 0 := Stand.of_body Bd
  have e0 : s₁.heap = h0 := by rw [← hh, Bd.state]; rfl
  have NF := Fr.nil n0
  have KP : Keep h0 h0 [] := Keep.refl h0 _
  refine WP.go ?_
  refine WP.cast (ef_7k0 m a1) ?_
  refine WP.name ?_
  intro G hG
  have bk44 : ∀ t, Steps p.tables e below (s₁.setTop (mkF m 1 #[.val (.ref a1)] [(.ref a1)])) t → Steps p.tables e below (s₁.setTop (mkF m 0 #[.val (.ref a1)] [])) t := fun t k => by
    refine XS.aloadN X0.here hx rfl (hb hby d7_0) rfl rfl ?_
    exact k
  refine WP.st bk44 ?_
  clear bk44
  obtain ⟨T45, X45, e45, st45⟩ := getF X0 hx hZ hown (host := "") (Or.inl (hw _ (List.mem_of_getElem? (i := 12) rfl))) Via.refl e0 F_a1_latenciesMicros (g := (mkF m 1 #[.val (.ref a1)] [(.ref a1)])) rfl rfl (hb hby d7_1)
  refine WP.st st45 ?_
  clear st45
  show WP p.tables e below _ T45 (mkF m 4 #[.val (.ref a1)] [(.ref tl)])
  have bk46 : ∀ t, Steps p.tables e below (T45.setTop (mkF m 5 #[.val (.ref a1)] [(.ref a1), (.ref tl)])) t → Steps p.tables e below (T45.setTop (mkF m 4 #[.val (.ref a1)] [(.ref tl)])) t := fun t k => by
    refine XS.aloadN X45.here hx rfl (hb hby d7_4) rfl rfl ?_
    exact k
  refine WP.st bk46 ?_
  clear bk46
  obtain ⟨T47, X47, e47, st47⟩ := getF X45 hx hZ hown (host := "") (Or.inl (hw _ (List.mem_of_getElem? (i := 24) rfl))) Via.refl e45 F_a1_delivered (g := (mkF m 5 #[.val (.ref a1)] [(.ref a1), (.ref tl)])) rfl rfl (hb hby d7_5)
  refine WP.st st47 ?_
  clear st47
  show WP p.tables e below _ T47 (mkF m 8 #[.val (.ref a1)] [(.long u_delivered), (.ref tl)])
  have bk48 : ∀ t, Steps p.tables e below (T47.setTop (mkF m 9 #[.val (.ref a1)] [(.ref a1), (.long u_delivered), (.ref tl)])) t → Steps p.tables e below (T47.setTop (mkF m 8 #[.val (.ref a1)] [(.long u_delivered), (.ref tl)])) t := fun t k => by
    refine XS.aloadN X47.here hx rfl (hb hby d7_8) rfl rfl ?_
    exact k
  refine WP.st bk48 ?_
  clear bk48
  obtain ⟨T49, X49, e49, st49⟩ := getF X47 hx hZ hown (host := "") (Or.inl (hw _ (List.mem_of_getElem? (i := 26) rfl))) Via.refl e47 F_a1_late (g := (mkF m 9 #[.val (.ref a1)] [(.ref a1), (.long u_delivered), (.ref tl)])) rfl rfl (hb hby d7_9)
  refine WP.st st49 ?_
  clear st49
  show WP p.tables e below _ T49 (mkF m 12 #[.val (.ref a1)] [(.long u_late), (.long u_delivered), (.ref tl)])
  have bk50 : ∀ t, Steps p.tables e below (T49.setTop (mkF m 14 #[.val (.ref a1)] [(.int ((u_delivered + u_late).toInt32)), (.ref tl)])) t → Steps p.tables e below (T49.setTop (mkF m 12 #[.val (.ref a1)] [(.long u_late), (.long u_delivered), (.ref tl)])) t := fun t k => by
    refine XS.ladd X49.here hx rfl (hb hby d7_12) rfl ?_
    refine XS.l2i X49.here hx rfl (hb hby d7_13) rfl ?_
    exact k
  refine WP.st bk50 ?_
  clear bk50
  rw [show ((u_delivered + u_late).toInt32) = (0 : Int32) from by rw [hde]; decide]
  show WP p.tables e below _ T49 (mkF m 14 #[.val (.ref a1)] [(.int (0 : Int32)), (.ref tl)])
  obtain ⟨_, _, ⟨T51, L51, k51, n51⟩, -, X51, ⟨Lc51, hQ51, l51, y51, z51⟩, st51⟩ := Jvm.LawKit.callS X49 hx (y := (⟨"java/util/Arrays", "copyOf", "([II)[I"⟩ : MethodName)) hown (mvT hZ (hw _ (List.mem_of_getElem? (i := 53) rfl))) (mvT hZ (hw _ (List.mem_of_getElem? (i := 54) rfl))) (mvT hZ (hw _ (List.mem_of_getElem? (i := 55) rfl))) (mvT hZ (hw _ (List.mem_of_getElem? (i := 56) rfl))) (by decide) (backOf (W := 0) (rm8k0 l Z a0 hw [] tl kl v0 v1 v2 v3 v4 v5 v6 v7 v8 v9 v10 v11 v12 v13 v14 v15 h0 n0 Z0 V_tl) hZ (hw _ (List.mem_of_getElem? (i := 56) rfl)) (hw _ (List.mem_of_getElem? (i := 55) rfl)) (by decide) (by decide)) (g := (mkF m 14 #[.val (.ref a1)] [(.int (0 : Int32)), (.ref tl)])) rfl (by rw [hml]; rfl) (argsL := [(.ref tl), (.int (0 : Int32))]) (rest := []) (lenOf pd_1 rfl) rfl (by show 2 * 0 + _ ≤ _; exact Nat.le_of_eq rfl) (hb hby d7_14) (fun _ _ => ⟨rfl, e49, (by decide : 0 + 1 ≤ _), (by decide : 0 + 0 ≤ _)⟩)
  dsimp only [Pt.U, Pt.locs, Pt.cells, Pt.slots] at X51 l51 y51 z51 st51 hQ51
  subst l51 y51 z51
  obtain ⟨r_51, kr_51, rfl, Nq51, Kq51, szq_r_51, nA51_r_51⟩ := hQ51
  replace NF := Fr.app NF Nq51
  clear Nq51
  refine WP.st st51 ?_
  clear st51
  obtain ⟨h51, e51⟩ : ∃ h, T51.heap = h := ⟨_, rfl⟩
  rw [e51] at Kq51 nA51_r_51
  have ne_a1_r_51 : a1 ≠ r_51 := Nat.ne_of_lt (Nat.lt_of_lt_of_le F_a1_latenciesMicros.lt szq_r_51)
  have ne_tl_r_51 : tl ≠ r_51 := Nat.ne_of_lt (Nat.lt_of_lt_of_le V_tl.lt szq_r_51)
  have sz_r_51 : h0.size ≤ r_51 := Nat.le_trans KP.1 szq_r_51
  replace F_a1_latenciesMicros := F_a1_latenciesMicros.keep Kq51 (by exact nin0)
  replace F_a1_delivered := F_a1_delivered.keep Kq51 (by exact nin0)
  replace F_a1_late := F_a1_late.keep Kq51 (by exact nin0)
  replace V_tl := V_tl.keep Kq51 (by exact nin0)
  replace Z0 := Nat.le_trans Z0 Kq51.1
  replace KP := KP.trans Kq51 all0
  clear Kq51
  have V_r_51 := nA51_r_51
  clear nA51_r_51
  show WP p.tables e below _ T51 (mkF m 17 #[.val (.ref a1)] [(.ref r_51)])
  subst hG
  obtain ⟨fs, hr, hrun, hended, hW, hsame⟩ := X51.leave (v := some (.ref r_51)) (fun h => by rw [Bd.returns] at h; cases h)
  refine WP.fin ⟨_, _, ?_, hrun, hended, _, _, rfl, ?_, ⟨_, rfl⟩, hW, hsame.mono (by decide) (by decide)⟩
  · exact retOut X51 hx Bd.returns rfl (Or.inr (Or.inr (Or.inr (Or.inr ⟨rfl, rfl, rfl⟩)))) (hb hby d7_17) hr
  · show Q7k0 Z a1 tl kl u_delivered u_late v0 v1 v2 v3 v4 v5 v6 v7 v8 v9 v10 v11 v12 v13 v14 v15 h0 n0 _ T51.heap _
    rw [e51]
    exact ⟨r_51, kr_51, rfl, NF, KP, sz_r_51, V_r_51⟩
theorem ef_8k1 (m : MethodId) (a1 : Addr) : entryFrame m #[(.ref a1), (.int (1 : Int32))] 3 = mkF m 0 #[.val (.ref a1), .val (.int (1 : Int32)), .unset] [] := by first | (simp [entryFrame, mkF, argsToLocals, Value.category]; done) | rfl
def Q8k1 (Z : State) (a1 : Addr) (kl : ClassId) (v0 : Value) (v1 : Value) (v2 : Value) (v3 : Value) (v4 : Value) (v5 : Value) (v6 : Value) (v7 : Value) (v8 : Value) (v9 : Value) (v10 : Value) (v11 : Value) (v12 : Value) (v13 : Value) (v14 : Value) (v15 : Value) (h0 : Heap) (n0 : Nat) (v : Option Value) (h : Heap) (L : List Loc) : Prop := ∃ r : Addr, ∃ kr : ClassId, v = some (.ref r) ∧ Fr n0 L ∧ Keep h0 h [] ∧ h0.size ≤ r ∧ (Arv Z h r kr .int (1 : Int32) [v0] (.int (0 : Int32)))
set_option maxRecDepth 65536 in
set_option maxHeartbeats 40000000 in
theorem rm8k1 (l : Launch) (Z : State) (a0 : Array Value) (hw : ∀ d ∈ tables_1, d.before a0 Z = true) (ws : List Jvm.Cond) (a1 : Addr) (kl : ClassId) (v0 : Value) (v1 : Value) (v2 : Value) (v3 : Value) (v4 : Value) (v5 : Value) (v6 : Value) (v7 : Value) (v8 : Value) (v9 : Value) (v10 : Value) (v11 : Value) (v12 : Value) (v13 : Value) (v14 : Value) (v15 : Value) (h0 : Heap) (n0 : Nat) (Z0 : n0 ≤ h0.size) (V_a1 : Arv Z h0 a1 kl .int (16 : Int32) [v0, v1, v2, v3, v4, v5, v6, v7, v8, v9, v10, v11, v12, v13, v14, v15] (.int (0 : Int32))) :
    MetFree l (⟨"java/util/Arrays", "copyOf", "([II)[I"⟩ : MethodName) (head1 (Jvm.Cond.code (⟨"java/util/Arrays", "copyOf", "([II)[I"⟩ : MethodName) jdk_65_method_123_code 3 (some (.array .int)) :: ws) ({ frames := 1, cells := 1, slots := 1, locals := 18 } : Room)) (fun a U => a = #[(.ref a1), (.int (1 : Int32))] ∧ Z.Warmed39 U.vm ∧ U.heap = h0) (fun _ _ _ _ _ => True) (fun _ U o U' => ∃ v L, o = .returned v ∧ Q8k1 Z a1 kl v0 v1 v2 v3 v4 v5 v6 v7 v8 v9 v10 v11 v12 v13 v14 v15 h0 n0 v U'.heap L ∧ FrameEnd U o U' L ({ frames := 1, cells := 1, slots := 1, locals := 18 } : Room).cells ({ frames := 1, cells := 1, slots := 1, locals := 18 } : Room).slots) := by
  refine MetFree.of_bodySF (plainFor_of_name pn_2) hisR ?_
  intro p e s m args below meth c s₁ Bd hml0 hP hK
  obtain ⟨rfl, hZ, hh⟩ := hP
  have hx := Bd.exec
  have hby := Bd.bytes
  have hml : c.maxLocals = 3 := hml0
  have hown : s.vm.findClass "java/util/Arrays" = some m.cls := findClass_of_methodNamed Bd.named
  have hnm := (name_of_methodNamed Bd.named Bd.method).1
  have X0 : Stand p l e ({ frames := 1, cells := 1, slots := 1, locals := 18 } : Room) s m #[(.ref a1), (.int (1 : Int32))] below meth c s₁ [] 0 0 := Stand.of_body Bd
  have e0 : s₁.heap = h0 := by rw [← hh, Bd.state]; rfl
  have NF := Fr.nil n0
  have KP : Keep h0 h0 [] := Keep.refl h0 _
  refine WP.go ?_
  refine WP.cast (ef_8k1 m a1) ?_
  refine WP.name ?_
  intro G hG
  have bk52 : ∀ t, Steps p.tables e below (s₁.setTop (mkF m 2 #[.val (.ref a1), .val (.int (1 : Int32)), .unset] [(.ref a1), (.int (1 : Int32))])) t → Steps p.tables e below (s₁.setTop (mkF m 0 #[.val (.ref a1), .val (.int (1 : Int32)), .unset] [])) t := fun t k => by
    refine XS.iloadN X0.here hx rfl (hb hby d8_0) rfl ?_
    refine XS.aloadN X0.here hx rfl (hb hby d8_1) rfl rfl ?_
    exact k
  refine WP.st bk52 ?_
  clear bk52
  obtain ⟨cl53, Ar53, len53⟩ := V_a1.len
  have bk54 : ∀ t, Steps p.tables e below (s₁.setTop (mkF m 15 #[.val (.ref a1), .val (.int (1 : Int32)), .unset] [(.int (1 : Int32))])) t → Steps p.tables e below (s₁.setTop (mkF m 2 #[.val (.ref a1), .val (.int (1 : Int32)), .unset] [(.ref a1), (.int (1 : Int32))])) t := fun t k => by
    refine X0.arraylength hx (by rw [e0]; exact Ar53.1) (State.isArrayOf_alike hZ.alike Ar53.2.1) (g := (mkF m 2 #[.val (.ref a1), .val (.int (1 : Int32)), .unset] [(.ref a1), (.int (1 : Int32))])) rfl rfl (hb hby d8_2) _ ?_
    rw [len53]
    refine XS.icmpYes X0.here hx rfl (pc0 := 3) (pc' := 14) rfl (hb hby d8_3) rfl (feq (by decide : ¬ ((1 : Int32) = (16 : Int32)))).2 (by decide) (by decide) ?_
    refine XS.iloadN X0.here hx rfl (hb hby d8_14) rfl ?_
    exact k
  refine WP.st bk54 ?_
  clear bk54
  obtain ⟨T55, h55, k55, X55, e55, E55, A55, st55⟩ := newP X0 hx hZ (hw _ (List.mem_of_getElem? (i := 11) rfl)) e0 (g := (mkF m 15 #[.val (.ref a1), .val (.int (1 : Int32)), .unset] [(.int (1 : Int32))])) rfl (hb hby d8_15) rfl (by decide) (cap := 1) (by decide) (by decide) (by decide) (by decide)
  obtain ⟨b55, g55⟩ : ∃ z, z = h0.size := ⟨_, rfl⟩
  rw [← g55] at A55 st55
  refine WP.st st55 ?_
  clear st55
  have ne_a1_b55 : a1 ≠ b55 := Nat.ne_of_lt (Nat.lt_of_lt_of_le V_a1.lt (Nat.le_of_eq g55.symm))
  have g_b55 : n0 ≤ b55 := Nat.le_trans Z0 (Nat.le_of_eq g55.symm)
  have sz_b55 : h0.size ≤ b55 := Nat.le_trans KP.1 (Nat.le_of_eq g55.symm)
  replace V_a1 := V_a1.ext E55
  replace Z0 := Nat.le_trans Z0 E55.1
  replace KP := KP.ext E55
  have V_b55 : Arv Z h55 b55 k55 .int (1 : Int32) [(.int (0 : Int32))] (.int (0 : Int32)) := (Arv.new A55 (by decide)).pad (pad_rep [] (.int (0 : Int32)) 1)
  show WP p.tables e below _ T55 (mkF m 17 #[.val (.ref a1), .val (.int (1 : Int32)), .unset] [(.ref b55)])
  have bk56 : ∀ t, Steps p.tables e below (T55.setTop (mkF m 23 #[.val (.ref a1), .val (.int (1 : Int32)), .val (.ref b55)] [(.ref a1), (.int (0 : Int32)), (.ref b55), (.int (0 : Int32)), (.ref a1)])) t → Steps p.tables e below (T55.setTop (mkF m 17 #[.val (.ref a1), .val (.int (1 : Int32)), .unset] [(.ref b55)])) t := fun t k => by
    refine XS.astoreN X55.here hx rfl (hb hby d8_17) rfl rfl (l' := #[.val (.ref a1), .val (.int (1 : Int32)), .val (.ref b55)]) rfl ?_
    refine XS.aloadN X55.here hx rfl (hb hby d8_18) rfl rfl ?_
    refine XS.iconst X55.here hx rfl (hb hby d8_19) ?_
    refine XS.aloadN X55.here hx rfl (hb hby d8_20) rfl rfl ?_
    show Steps p.tables e below (T55.setTop (mkF m 21 #[.val (.ref a1), .val (.int (1 : Int32)), .val (.ref b55)] [(.ref b55), (.int (0 : Int32)), (.ref a1)])) t
    refine XS.iconst X55.here hx rfl (hb hby d8_21) ?_
    refine XS.aloadN X55.here hx rfl (hb hby d8_22) rfl rfl ?_
    exact k
  refine WP.st bk56 ?_
  clear bk56
  obtain ⟨cl57, Ar57, len57⟩ := V_a1.len
  have bk58 : ∀ t, Steps p.tables e below (T55.setTop (mkF m 25 #[.val (.ref a1), .val (.int (1 : Int32)), .val (.ref b55)] [(.int (1 : Int32)), (.int (16 : Int32)), (.int (0 : Int32)), (.ref b55), (.int (0 : Int32)), (.ref a1)])) t → Steps p.tables e below (T55.setTop (mkF m 23 #[.val (.ref a1), .val (.int (1 : Int32)), .val (.ref b55)] [(.ref a1), (.int (0 : Int32)), (.ref b55), (.int (0 : Int32)), (.ref a1)])) t := fun t k => by
    refine X55.arraylength hx (by rw [e55]; exact Ar57.1) (State.isArrayOf_alike hZ.alike Ar57.2.1) (g := (mkF m 23 #[.val (.ref a1), .val (.int (1 : Int32)), .val (.ref b55)] [(.ref a1), (.int (0 : Int32)), (.ref b55), (.int (0 : Int32)), (.ref a1)])) rfl rfl (hb hby d8_23) _ ?_
    rw [len57]
    refine XS.iloadN X55.here hx rfl (hb hby d8_24) rfl ?_
    exact k
  refine WP.st bk58 ?_
  clear bk58
  obtain ⟨_, _, ⟨T59, L59, k59, n59⟩, -, X59, ⟨Lc59, hQ59, l59, y59, z59⟩, st59⟩ := Jvm.LawKit.callS X55 hx (y := (⟨"java/lang/Math", "min", "(II)I"⟩ : MethodName)) hown (mvT hZ (hw _ (List.mem_of_getElem? (i := 57) rfl))) (mvT hZ (hw _ (List.mem_of_getElem? (i := 58) rfl))) (mvT hZ (hw _ (List.mem_of_getElem? (i := 32) rfl))) (mvT hZ (hw _ (List.mem_of_getElem? (i := 59) rfl))) (by decide) (backOf (W := 4) (rm9 l Z a0 hw [] (16 : Int32) (1 : Int32) h55 n0 Z0 ) hZ (hw _ (List.mem_of_getElem? (i := 59) rfl)) (hw _ (List.mem_of_getElem? (i := 32) rfl)) (by decide) (by decide)) (g := (mkF m 25 #[.val (.ref a1), .val (.int (1 : Int32)), .val (.ref b55)] [(.int (1 : Int32)), (.int (16 : Int32)), (.int (0 : Int32)), (.ref b55), (.int (0 : Int32)), (.ref a1)])) rfl (by rw [hml]; rfl) (argsL := [(.int (16 : Int32)), (.int (1 : Int32))]) (rest := [(.int (0 : Int32)), (.ref b55), (.int (0 : Int32)), (.ref a1)]) (lenOf pd_0 rfl) rfl (by show 2 * 0 + _ ≤ _; exact Nat.le_of_eq rfl) (hb hby d8_25) (fun _ _ => ⟨rfl, e55, (by decide : 1 + 0 ≤ _), (by decide : 1 + 0 ≤ _)⟩)
  dsimp only [Pt.U, Pt.locs, Pt.cells, Pt.slots] at X59 l59 y59 z59 st59 hQ59
  subst l59 y59 z59
  obtain ⟨rfl, Nq59, Kq59⟩ := hQ59
  replace NF := Fr.app NF Nq59
  clear Nq59
  refine WP.st st59 ?_
  clear st59
  replace Kq59 := Kq59.trans (rfl : h55 = h55)
  show WP p.tables e below _ T59 (mkF m 28 #[.val (.ref a1), .val (.int (1 : Int32)), .val (.ref b55)] [(.int (own_min (16 : Int32) (1 : Int32))), (.int (0 : Int32)), (.ref b55), (.int (0 : Int32)), (.ref a1)])
  rw [show (own_min (16 : Int32) (1 : Int32)) = (1 : Int32) from by decide]
  show WP p.tables e below _ T59 (mkF m 28 #[.val (.ref a1), .val (.int (1 : Int32)), .val (.ref b55)] [(.int (1 : Int32)), (.int (0 : Int32)), (.ref b55), (.int (0 : Int32)), (.ref a1)])
  obtain ⟨T60, h60, Lq60, X60, e60, Nq60, Kq60, Vq60, st60⟩ := cpA X59 hx hZ hown (hw _ (List.mem_of_getElem? (i := 60) rfl)) (hw _ (List.mem_of_getElem? (i := 63) rfl)) (hw _ (List.mem_of_getElem? (i := 61) rfl)) (hw _ (List.mem_of_getElem? (i := 62) rfl)) Kq59 V_a1 V_b55 (Or.inl ⟨rfl, rfl⟩) (by decide) (by decide) (by decide) (by decide) (by decide) (us := [v0]) rfl (Nat.le_of_ble_eq_true rfl) NF g_b55 (g := (mkF m 28 #[.val (.ref a1), .val (.int (1 : Int32)), .val (.ref b55)] [(.int (1 : Int32)), (.int (0 : Int32)), (.ref b55), (.int (0 : Int32)), (.ref a1)])) rfl (by rw [hml]; rfl) rfl (hb hby d8_28) (by decide) (W := 0) (by show 2 * 0 + _ ≤ _; exact Nat.le_of_eq rfl) (by decide)
  refine WP.st st60 ?_
  clear st60
  replace NF := Nq60
  replace Vq60 : Arv Z h60 b55 k55 .int (1 : Int32) [v0] (.int (0 : Int32)) := Vq60
  clear V_b55
  replace V_a1 := V_a1.keep Kq60 (by exact ninS ne_a1_b55 (nin0))
  replace Z0 := Nat.le_trans Z0 Kq60.1
  replace KP := KP.trans Kq60 (allS (Or.inr sz_b55) all0)
  have V_b55 := Vq60
  clear Vq60 Kq60
  show WP p.tables e below _ T60 (mkF m 31 #[.val (.ref a1), .val (.int (1 : Int32)), .val (.ref b55)] [])
  have bk61 : ∀ t, Steps p.tables e below (T60.setTop (mkF m 32 #[.val (.ref a1), .val (.int (1 : Int32)), .val (.ref b55)] [(.ref b55)])) t → Steps p.tables e below (T60.setTop (mkF m 31 #[.val (.ref a1), .val (.int (1 : Int32)), .val (.ref b55)] [])) t := fun t k => by
    refine XS.aloadN X60.here hx rfl (hb hby d8_31) rfl rfl ?_
    exact k
  refine WP.st bk61 ?_
  clear bk61
  subst hG
  obtain ⟨fs, hr, hrun, hended, hW, hsame⟩ := X60.leave (v := some (.ref b55)) (fun h => by rw [Bd.returns] at h; cases h)
  refine WP.fin ⟨_, _, ?_, hrun, hended, _, _, rfl, ?_, ⟨_, rfl⟩, hW, hsame.mono (by decide) (by decide)⟩
  · exact retOut X60 hx Bd.returns rfl (Or.inr (Or.inr (Or.inr (Or.inr ⟨rfl, rfl, rfl⟩)))) (hb hby d8_32) hr
  · show Q8k1 Z a1 kl v0 v1 v2 v3 v4 v5 v6 v7 v8 v9 v10 v11 v12 v13 v14 v15 h0 n0 _ T60.heap _
    rw [e60]
    exact ⟨b55, k55, rfl, NF, KP, sz_b55, V_b55⟩
theorem ef_7k1 (m : MethodId) (a1 : Addr) : entryFrame m #[(.ref a1)] 1 = mkF m 0 #[.val (.ref a1)] [] := by first | (simp [entryFrame, mkF, argsToLocals, Value.category]; done) | rfl
def Q7k1 (Z : State) (a1 : Addr) (tl : Addr) (kl : ClassId) (u_delivered : Int64) (u_late : Int64) (v0 : Value) (v1 : Value) (v2 : Value) (v3 : Value) (v4 : Value) (v5 : Value) (v6 : Value) (v7 : Value) (v8 : Value) (v9 : Value) (v10 : Value) (v11 : Value) (v12 : Value) (v13 : Value) (v14 : Value) (v15 : Value) (h0 : Heap) (n0 : Nat) (v : Option Value) (h : Heap) (L : List Loc) : Prop := ∃ r : Addr, ∃ kr : ClassId, v = some (.ref r) ∧ Fr n0 L ∧ Keep h0 h [] ∧ h0.size ≤ r ∧ (Arv Z h r kr .int (1 : Int32) [v0] (.int (0 : Int32)))
set_option maxRecDepth 65536 in
set_option maxHeartbeats 40000000 in
theorem rm7k1 (l : Launch) (Z : State) (a0 : Array Value) (hw : ∀ d ∈ tables_1, d.before a0 Z = true) (ws : List Jvm.Cond) (a1 : Addr) (tl : Addr) (kl : ClassId) (u_delivered : Int64) (u_late : Int64) (v0 : Value) (v1 : Value) (v2 : Value) (v3 : Value) (v4 : Value) (v5 : Value) (v6 : Value) (v7 : Value) (v8 : Value) (v9 : Value) (v10 : Value) (v11 : Value) (v12 : Value) (v13 : Value) (v14 : Value) (v15 : Value) (h0 : Heap) (n0 : Nat) (Z0 : n0 ≤ h0.size) (F_a1_latenciesMicros : Fld Z h0 a1 "com/example/otayori/otayori/bench/PairTally" "latenciesMicros" "[I" (.ref tl)) (F_a1_delivered : Fld Z h0 a1 "com/example/otayori/otayori/bench/PairTally" "delivered" "J" (.long u_delivered)) (F_a1_late : Fld Z h0 a1 "com/example/otayori/otayori/bench/PairTally" "late" "J" (.long u_late)) (V_tl : Arv Z h0 tl kl .int (16 : Int32) [v0, v1, v2, v3, v4, v5, v6, v7, v8, v9, v10, v11, v12, v13, v14, v15] (.int (0 : Int32))) (hde : u_delivered + u_late = (1 : Int64)) :
    MetFree l (⟨"com/example/otayori/otayori/bench/PairTally", "latencies", "()[I"⟩ : MethodName) (head1 (Jvm.Cond.code (⟨"com/example/otayori/otayori/bench/PairTally", "latencies", "()[I"⟩ : MethodName) prog_3_method_9_code 1 (some (.array .int)) :: ws) ({ frames := 2, cells := 1, slots := 1, locals := 32 } : Room)) (fun a U => a = #[(.ref a1)] ∧ Z.Warmed39 U.vm ∧ U.heap = h0) (fun _ _ _ _ _ => True) (fun _ U o U' => ∃ v L, o = .returned v ∧ Q7k1 Z a1 tl kl u_delivered u_late v0 v1 v2 v3 v4 v5 v6 v7 v8 v9 v10 v11 v12 v13 v14 v15 h0 n0 v U'.heap L ∧ FrameEnd U o U' L ({ frames := 2, cells := 1, slots := 1, locals := 32 } : Room).cells ({ frames := 2, cells := 1, slots := 1, locals := 32 } : Room).slots) := by
  refine MetFree.of_bodySF (plainFor_of_name pn_0) hisR ?_
  intro p e s m args below meth c s₁ Bd hml0 hP hK
  obtain ⟨rfl, hZ, hh⟩ := hP
  have hx := Bd.exec
  have hby := Bd.bytes
  have hml : c.maxLocals = 1 := hml0
  have hown : s.vm.findClass "com/example/otayori/otayori/bench/PairTally" = some m.cls := findClass_of_methodNamed Bd.named
  have hnm := (name_of_methodNamed Bd.named Bd.method).1
  have X0 : Stand p l e ({ frames := 2, cells := 1, slots := 1, locals := 32 } : Room) s m #[(.ref a1)] below meth c s₁ [] 0 0 := Stand.of_body Bd
  have e0 : s₁.heap = h0 := by rw [← hh, Bd.state]; rfl
  have NF := Fr.nil n0
  have KP : Keep h0 h0 [] := Keep.refl h0 _
  refine WP.go ?_
  refine WP.cast (ef_7k1 m a1) ?_
  refine WP.name ?_
  intro G hG
  have bk62 : ∀ t, Steps p.tables e below (s₁.setTop (mkF m 1 #[.val (.ref a1)] [(.ref a1)])) t → Steps p.tables e below (s₁.setTop (mkF m 0 #[.val (.ref a1)] [])) t := fun t k => by
    refine XS.aloadN X0.here hx rfl (hb hby d7_0) rfl rfl ?_
    exact k
  refine WP.st bk62 ?_
  clear bk62
  obtain ⟨T63, X63, e63, st63⟩ := getF X0 hx hZ hown (host := "") (Or.inl (hw _ (List.mem_of_getElem? (i := 12) rfl))) Via.refl e0 F_a1_latenciesMicros (g := (mkF m 1 #[.val (.ref a1)] [(.ref a1)])) rfl rfl (hb hby d7_1)
  refine WP.st st63 ?_
  clear st63
  show WP p.tables e below _ T63 (mkF m 4 #[.val (.ref a1)] [(.ref tl)])
  have bk64 : ∀ t, Steps p.tables e below (T63.setTop (mkF m 5 #[.val (.ref a1)] [(.ref a1), (.ref tl)])) t → Steps p.tables e below (T63.setTop (mkF m 4 #[.val (.ref a1)] [(.ref tl)])) t := fun t k => by
    refine XS.aloadN X63.here hx rfl (hb hby d7_4) rfl rfl ?_
    exact k
  refine WP.st bk64 ?_
  clear bk64
  obtain ⟨T65, X65, e65, st65⟩ := getF X63 hx hZ hown (host := "") (Or.inl (hw _ (List.mem_of_getElem? (i := 24) rfl))) Via.refl e63 F_a1_delivered (g := (mkF m 5 #[.val (.ref a1)] [(.ref a1), (.ref tl)])) rfl rfl (hb hby d7_5)
  refine WP.st st65 ?_
  clear st65
  show WP p.tables e below _ T65 (mkF m 8 #[.val (.ref a1)] [(.long u_delivered), (.ref tl)])
  have bk66 : ∀ t, Steps p.tables e below (T65.setTop (mkF m 9 #[.val (.ref a1)] [(.ref a1), (.long u_delivered), (.ref tl)])) t → Steps p.tables e below (T65.setTop (mkF m 8 #[.val (.ref a1)] [(.long u_delivered), (.ref tl)])) t := fun t k => by
    refine XS.aloadN X65.here hx rfl (hb hby d7_8) rfl rfl ?_
    exact k
  refine WP.st bk66 ?_
  clear bk66
  obtain ⟨T67, X67, e67, st67⟩ := getF X65 hx hZ hown (host := "") (Or.inl (hw _ (List.mem_of_getElem? (i := 26) rfl))) Via.refl e65 F_a1_late (g := (mkF m 9 #[.val (.ref a1)] [(.ref a1), (.long u_delivered), (.ref tl)])) rfl rfl (hb hby d7_9)
  refine WP.st st67 ?_
  clear st67
  show WP p.tables e below _ T67 (mkF m 12 #[.val (.ref a1)] [(.long u_late), (.long u_delivered), (.ref tl)])
  have bk68 : ∀ t, Steps p.tables e below (T67.setTop (mkF m 14 #[.val (.ref a1)] [(.int ((u_delivered + u_late).toInt32)), (.ref tl)])) t → Steps p.tables e below (T67.setTop (mkF m 12 #[.val (.ref a1)] [(.long u_late), (.long u_delivered), (.ref tl)])) t := fun t k => by
    refine XS.ladd X67.here hx rfl (hb hby d7_12) rfl ?_
    refine XS.l2i X67.here hx rfl (hb hby d7_13) rfl ?_
    exact k
  refine WP.st bk68 ?_
  clear bk68
  rw [show ((u_delivered + u_late).toInt32) = (1 : Int32) from by rw [hde]; decide]
  show WP p.tables e below _ T67 (mkF m 14 #[.val (.ref a1)] [(.int (1 : Int32)), (.ref tl)])
  obtain ⟨_, _, ⟨T69, L69, k69, n69⟩, -, X69, ⟨Lc69, hQ69, l69, y69, z69⟩, st69⟩ := Jvm.LawKit.callS X67 hx (y := (⟨"java/util/Arrays", "copyOf", "([II)[I"⟩ : MethodName)) hown (mvT hZ (hw _ (List.mem_of_getElem? (i := 53) rfl))) (mvT hZ (hw _ (List.mem_of_getElem? (i := 54) rfl))) (mvT hZ (hw _ (List.mem_of_getElem? (i := 55) rfl))) (mvT hZ (hw _ (List.mem_of_getElem? (i := 56) rfl))) (by decide) (backOf (W := 0) (rm8k1 l Z a0 hw [] tl kl v0 v1 v2 v3 v4 v5 v6 v7 v8 v9 v10 v11 v12 v13 v14 v15 h0 n0 Z0 V_tl) hZ (hw _ (List.mem_of_getElem? (i := 56) rfl)) (hw _ (List.mem_of_getElem? (i := 55) rfl)) (by decide) (by decide)) (g := (mkF m 14 #[.val (.ref a1)] [(.int (1 : Int32)), (.ref tl)])) rfl (by rw [hml]; rfl) (argsL := [(.ref tl), (.int (1 : Int32))]) (rest := []) (lenOf pd_1 rfl) rfl (by show 2 * 0 + _ ≤ _; exact Nat.le_of_eq rfl) (hb hby d7_14) (fun _ _ => ⟨rfl, e67, (by decide : 0 + 1 ≤ _), (by decide : 0 + 1 ≤ _)⟩)
  dsimp only [Pt.U, Pt.locs, Pt.cells, Pt.slots] at X69 l69 y69 z69 st69 hQ69
  subst l69 y69 z69
  obtain ⟨r_69, kr_69, rfl, Nq69, Kq69, szq_r_69, nA69_r_69⟩ := hQ69
  replace NF := Fr.app NF Nq69
  clear Nq69
  refine WP.st st69 ?_
  clear st69
  obtain ⟨h69, e69⟩ : ∃ h, T69.heap = h := ⟨_, rfl⟩
  rw [e69] at Kq69 nA69_r_69
  have ne_a1_r_69 : a1 ≠ r_69 := Nat.ne_of_lt (Nat.lt_of_lt_of_le F_a1_latenciesMicros.lt szq_r_69)
  have ne_tl_r_69 : tl ≠ r_69 := Nat.ne_of_lt (Nat.lt_of_lt_of_le V_tl.lt szq_r_69)
  have sz_r_69 : h0.size ≤ r_69 := Nat.le_trans KP.1 szq_r_69
  replace F_a1_latenciesMicros := F_a1_latenciesMicros.keep Kq69 (by exact nin0)
  replace F_a1_delivered := F_a1_delivered.keep Kq69 (by exact nin0)
  replace F_a1_late := F_a1_late.keep Kq69 (by exact nin0)
  replace V_tl := V_tl.keep Kq69 (by exact nin0)
  replace Z0 := Nat.le_trans Z0 Kq69.1
  replace KP := KP.trans Kq69 all0
  clear Kq69
  have V_r_69 := nA69_r_69
  clear nA69_r_69
  show WP p.tables e below _ T69 (mkF m 17 #[.val (.ref a1)] [(.ref r_69)])
  subst hG
  obtain ⟨fs, hr, hrun, hended, hW, hsame⟩ := X69.leave (v := some (.ref r_69)) (fun h => by rw [Bd.returns] at h; cases h)
  refine WP.fin ⟨_, _, ?_, hrun, hended, _, _, rfl, ?_, ⟨_, rfl⟩, hW, hsame.mono (by decide) (by decide)⟩
  · exact retOut X69 hx Bd.returns rfl (Or.inr (Or.inr (Or.inr (Or.inr ⟨rfl, rfl, rfl⟩)))) (hb hby d7_17) hr
  · show Q7k1 Z a1 tl kl u_delivered u_late v0 v1 v2 v3 v4 v5 v6 v7 v8 v9 v10 v11 v12 v13 v14 v15 h0 n0 _ T69.heap _
    rw [e69]
    exact ⟨r_69, kr_69, rfl, NF, KP, sz_r_69, V_r_69⟩
theorem ef_8k2 (m : MethodId) (a1 : Addr) : entryFrame m #[(.ref a1), (.int (2 : Int32))] 3 = mkF m 0 #[.val (.ref a1), .val (.int (2 : Int32)), .unset] [] := by first | (simp [entryFrame, mkF, argsToLocals, Value.category]; done) | rfl
def Q8k2 (Z : State) (a1 : Addr) (kl : ClassId) (v0 : Value) (v1 : Value) (v2 : Value) (v3 : Value) (v4 : Value) (v5 : Value) (v6 : Value) (v7 : Value) (v8 : Value) (v9 : Value) (v10 : Value) (v11 : Value) (v12 : Value) (v13 : Value) (v14 : Value) (v15 : Value) (h0 : Heap) (n0 : Nat) (v : Option Value) (h : Heap) (L : List Loc) : Prop := ∃ r : Addr, ∃ kr : ClassId, v = some (.ref r) ∧ Fr n0 L ∧ Keep h0 h [] ∧ h0.size ≤ r ∧ (Arv Z h r kr .int (2 : Int32) [v0, v1] (.int (0 : Int32)))
set_option maxRecDepth 65536 in
set_option maxHeartbeats 40000000 in
theorem rm8k2 (l : Launch) (Z : State) (a0 : Array Value) (hw : ∀ d ∈ tables_1, d.before a0 Z = true) (ws : List Jvm.Cond) (a1 : Addr) (kl : ClassId) (v0 : Value) (v1 : Value) (v2 : Value) (v3 : Value) (v4 : Value) (v5 : Value) (v6 : Value) (v7 : Value) (v8 : Value) (v9 : Value) (v10 : Value) (v11 : Value) (v12 : Value) (v13 : Value) (v14 : Value) (v15 : Value) (h0 : Heap) (n0 : Nat) (Z0 : n0 ≤ h0.size) (V_a1 : Arv Z h0 a1 kl .int (16 : Int32) [v0, v1, v2, v3, v4, v5, v6, v7, v8, v9, v10, v11, v12, v13, v14, v15] (.int (0 : Int32))) :
    MetFree l (⟨"java/util/Arrays", "copyOf", "([II)[I"⟩ : MethodName) (head1 (Jvm.Cond.code (⟨"java/util/Arrays", "copyOf", "([II)[I"⟩ : MethodName) jdk_65_method_123_code 3 (some (.array .int)) :: ws) ({ frames := 1, cells := 1, slots := 2, locals := 18 } : Room)) (fun a U => a = #[(.ref a1), (.int (2 : Int32))] ∧ Z.Warmed39 U.vm ∧ U.heap = h0) (fun _ _ _ _ _ => True) (fun _ U o U' => ∃ v L, o = .returned v ∧ Q8k2 Z a1 kl v0 v1 v2 v3 v4 v5 v6 v7 v8 v9 v10 v11 v12 v13 v14 v15 h0 n0 v U'.heap L ∧ FrameEnd U o U' L ({ frames := 1, cells := 1, slots := 2, locals := 18 } : Room).cells ({ frames := 1, cells := 1, slots := 2, locals := 18 } : Room).slots) := by
  refine MetFree.of_bodySF (plainFor_of_name pn_2) hisR ?_
  intro p e s m args below meth c s₁ Bd hml0 hP hK
  obtain ⟨rfl, hZ, hh⟩ := hP
  have hx := Bd.exec
  have hby := Bd.bytes
  have hml : c.maxLocals = 3 := hml0
  have hown : s.vm.findClass "java/util/Arrays" = some m.cls := findClass_of_methodNamed Bd.named
  have hnm := (name_of_methodNamed Bd.named Bd.method).1
  have X0 : Stand p l e ({ frames := 1, cells := 1, slots := 2, locals := 18 } : Room) s m #[(.ref a1), (.int (2 : Int32))] below meth c s₁ [] 0 0 := Stand.of_body Bd
  have e0 : s₁.heap = h0 := by rw [← hh, Bd.state]; rfl
  have NF := Fr.nil n0
  have KP : Keep h0 h0 [] := Keep.refl h0 _
  refine WP.go ?_
  refine WP.cast (ef_8k2 m a1) ?_
  refine WP.name ?_
  intro G hG
  have bk70 : ∀ t, Steps p.tables e below (s₁.setTop (mkF m 2 #[.val (.ref a1), .val (.int (2 : Int32)), .unset] [(.ref a1), (.int (2 : Int32))])) t → Steps p.tables e below (s₁.setTop (mkF m 0 #[.val (.ref a1), .val (.int (2 : Int32)), .unset] [])) t := fun t k => by
    refine XS.iloadN X0.here hx rfl (hb hby d8_0) rfl ?_
    refine XS.aloadN X0.here hx rfl (hb hby d8_1) rfl rfl ?_
    exact k
  refine WP.st bk70 ?_
  clear bk70
  obtain ⟨cl71, Ar71, len71⟩ := V_a1.len
  have bk72 : ∀ t, Steps p.tables e below (s₁.setTop (mkF m 15 #[.val (.ref a1), .val (.int (2 : Int32)), .unset] [(.int (2 : Int32))])) t → Steps p.tables e below (s₁.setTop (mkF m 2 #[.val (.ref a1), .val (.int (2 : Int32)), .unset] [(.ref a1), (.int (2 : Int32))])) t := fun t k => by
    refine X0.arraylength hx (by rw [e0]; exact Ar71.1) (State.isArrayOf_alike hZ.alike Ar71.2.1) (g := (mkF m 2 #[.val (.ref a1), .val (.int (2 : Int32)), .unset] [(.ref a1), (.int (2 : Int32))])) rfl rfl (hb hby d8_2) _ ?_
    rw [len71]
    refine XS.icmpYes X0.here hx rfl (pc0 := 3) (pc' := 14) rfl (hb hby d8_3) rfl (feq (by decide : ¬ ((2 : Int32) = (16 : Int32)))).2 (by decide) (by decide) ?_
    refine XS.iloadN X0.here hx rfl (hb hby d8_14) rfl ?_
    exact k
  refine WP.st bk72 ?_
  clear bk72
  obtain ⟨T73, h73, k73, X73, e73, E73, A73, st73⟩ := newP X0 hx hZ (hw _ (List.mem_of_getElem? (i := 11) rfl)) e0 (g := (mkF m 15 #[.val (.ref a1), .val (.int (2 : Int32)), .unset] [(.int (2 : Int32))])) rfl (hb hby d8_15) rfl (by decide) (cap := 2) (by decide) (by decide) (by decide) (by decide)
  obtain ⟨b73, g73⟩ : ∃ z, z = h0.size := ⟨_, rfl⟩
  rw [← g73] at A73 st73
  refine WP.st st73 ?_
  clear st73
  have ne_a1_b73 : a1 ≠ b73 := Nat.ne_of_lt (Nat.lt_of_lt_of_le V_a1.lt (Nat.le_of_eq g73.symm))
  have g_b73 : n0 ≤ b73 := Nat.le_trans Z0 (Nat.le_of_eq g73.symm)
  have sz_b73 : h0.size ≤ b73 := Nat.le_trans KP.1 (Nat.le_of_eq g73.symm)
  replace V_a1 := V_a1.ext E73
  replace Z0 := Nat.le_trans Z0 E73.1
  replace KP := KP.ext E73
  have V_b73 : Arv Z h73 b73 k73 .int (2 : Int32) [(.int (0 : Int32)), (.int (0 : Int32))] (.int (0 : Int32)) := (Arv.new A73 (by decide)).pad (pad_rep [] (.int (0 : Int32)) 2)
  show WP p.tables e below _ T73 (mkF m 17 #[.val (.ref a1), .val (.int (2 : Int32)), .unset] [(.ref b73)])
  have bk74 : ∀ t, Steps p.tables e below (T73.setTop (mkF m 23 #[.val (.ref a1), .val (.int (2 : Int32)), .val (.ref b73)] [(.ref a1), (.int (0 : Int32)), (.ref b73), (.int (0 : Int32)), (.ref a1)])) t → Steps p.tables e below (T73.setTop (mkF m 17 #[.val (.ref a1), .val (.int (2 : Int32)), .unset] [(.ref b73)])) t := fun t k => by
    refine XS.astoreN X73.here hx rfl (hb hby d8_17) rfl rfl (l' := #[.val (.ref a1), .val (.int (2 : Int32)), .val (.ref b73)]) rfl ?_
    refine XS.aloadN X73.here hx rfl (hb hby d8_18) rfl rfl ?_
    refine XS.iconst X73.here hx rfl (hb hby d8_19) ?_
    refine XS.aloadN X73.here hx rfl (hb hby d8_20) rfl rfl ?_
    show Steps p.tables e below (T73.setTop (mkF m 21 #[.val (.ref a1), .val (.int (2 : Int32)), .val (.ref b73)] [(.ref b73), (.int (0 : Int32)), (.ref a1)])) t
    refine XS.iconst X73.here hx rfl (hb hby d8_21) ?_
    refine XS.aloadN X73.here hx rfl (hb hby d8_22) rfl rfl ?_
    exact k
  refine WP.st bk74 ?_
  clear bk74
  obtain ⟨cl75, Ar75, len75⟩ := V_a1.len
  have bk76 : ∀ t, Steps p.tables e below (T73.setTop (mkF m 25 #[.val (.ref a1), .val (.int (2 : Int32)), .val (.ref b73)] [(.int (2 : Int32)), (.int (16 : Int32)), (.int (0 : Int32)), (.ref b73), (.int (0 : Int32)), (.ref a1)])) t → Steps p.tables e below (T73.setTop (mkF m 23 #[.val (.ref a1), .val (.int (2 : Int32)), .val (.ref b73)] [(.ref a1), (.int (0 : Int32)), (.ref b73), (.int (0 : Int32)), (.ref a1)])) t := fun t k => by
    refine X73.arraylength hx (by rw [e73]; exact Ar75.1) (State.isArrayOf_alike hZ.alike Ar75.2.1) (g := (mkF m 23 #[.val (.ref a1), .val (.int (2 : Int32)), .val (.ref b73)] [(.ref a1), (.int (0 : Int32)), (.ref b73), (.int (0 : Int32)), (.ref a1)])) rfl rfl (hb hby d8_23) _ ?_
    rw [len75]
    refine XS.iloadN X73.here hx rfl (hb hby d8_24) rfl ?_
    exact k
  refine WP.st bk76 ?_
  clear bk76
  obtain ⟨_, _, ⟨T77, L77, k77, n77⟩, -, X77, ⟨Lc77, hQ77, l77, y77, z77⟩, st77⟩ := Jvm.LawKit.callS X73 hx (y := (⟨"java/lang/Math", "min", "(II)I"⟩ : MethodName)) hown (mvT hZ (hw _ (List.mem_of_getElem? (i := 57) rfl))) (mvT hZ (hw _ (List.mem_of_getElem? (i := 58) rfl))) (mvT hZ (hw _ (List.mem_of_getElem? (i := 32) rfl))) (mvT hZ (hw _ (List.mem_of_getElem? (i := 59) rfl))) (by decide) (backOf (W := 4) (rm9 l Z a0 hw [] (16 : Int32) (2 : Int32) h73 n0 Z0 ) hZ (hw _ (List.mem_of_getElem? (i := 59) rfl)) (hw _ (List.mem_of_getElem? (i := 32) rfl)) (by decide) (by decide)) (g := (mkF m 25 #[.val (.ref a1), .val (.int (2 : Int32)), .val (.ref b73)] [(.int (2 : Int32)), (.int (16 : Int32)), (.int (0 : Int32)), (.ref b73), (.int (0 : Int32)), (.ref a1)])) rfl (by rw [hml]; rfl) (argsL := [(.int (16 : Int32)), (.int (2 : Int32))]) (rest := [(.int (0 : Int32)), (.ref b73), (.int (0 : Int32)), (.ref a1)]) (lenOf pd_0 rfl) rfl (by show 2 * 0 + _ ≤ _; exact Nat.le_of_eq rfl) (hb hby d8_25) (fun _ _ => ⟨rfl, e73, (by decide : 1 + 0 ≤ _), (by decide : 2 + 0 ≤ _)⟩)
  dsimp only [Pt.U, Pt.locs, Pt.cells, Pt.slots] at X77 l77 y77 z77 st77 hQ77
  subst l77 y77 z77
  obtain ⟨rfl, Nq77, Kq77⟩ := hQ77
  replace NF := Fr.app NF Nq77
  clear Nq77
  refine WP.st st77 ?_
  clear st77
  replace Kq77 := Kq77.trans (rfl : h73 = h73)
  show WP p.tables e below _ T77 (mkF m 28 #[.val (.ref a1), .val (.int (2 : Int32)), .val (.ref b73)] [(.int (own_min (16 : Int32) (2 : Int32))), (.int (0 : Int32)), (.ref b73), (.int (0 : Int32)), (.ref a1)])
  rw [show (own_min (16 : Int32) (2 : Int32)) = (2 : Int32) from by decide]
  show WP p.tables e below _ T77 (mkF m 28 #[.val (.ref a1), .val (.int (2 : Int32)), .val (.ref b73)] [(.int (2 : Int32)), (.int (0 : Int32)), (.ref b73), (.int (0 : Int32)), (.ref a1)])
  obtain ⟨T78, h78, Lq78, X78, e78, Nq78, Kq78, Vq78, st78⟩ := cpA X77 hx hZ hown (hw _ (List.mem_of_getElem? (i := 60) rfl)) (hw _ (List.mem_of_getElem? (i := 63) rfl)) (hw _ (List.mem_of_getElem? (i := 61) rfl)) (hw _ (List.mem_of_getElem? (i := 62) rfl)) Kq77 V_a1 V_b73 (Or.inl ⟨rfl, rfl⟩) (by decide) (by decide) (by decide) (by decide) (by decide) (us := [v0, v1]) rfl (Nat.le_of_ble_eq_true rfl) NF g_b73 (g := (mkF m 28 #[.val (.ref a1), .val (.int (2 : Int32)), .val (.ref b73)] [(.int (2 : Int32)), (.int (0 : Int32)), (.ref b73), (.int (0 : Int32)), (.ref a1)])) rfl (by rw [hml]; rfl) rfl (hb hby d8_28) (by decide) (W := 0) (by show 2 * 0 + _ ≤ _; exact Nat.le_of_eq rfl) (by decide)
  refine WP.st st78 ?_
  clear st78
  replace NF := Nq78
  replace Vq78 : Arv Z h78 b73 k73 .int (2 : Int32) [v0, v1] (.int (0 : Int32)) := Vq78
  clear V_b73
  replace V_a1 := V_a1.keep Kq78 (by exact ninS ne_a1_b73 (nin0))
  replace Z0 := Nat.le_trans Z0 Kq78.1
  replace KP := KP.trans Kq78 (allS (Or.inr sz_b73) all0)
  have V_b73 := Vq78
  clear Vq78 Kq78
  show WP p.tables e below _ T78 (mkF m 31 #[.val (.ref a1), .val (.int (2 : Int32)), .val (.ref b73)] [])
  have bk79 : ∀ t, Steps p.tables e below (T78.setTop (mkF m 32 #[.val (.ref a1), .val (.int (2 : Int32)), .val (.ref b73)] [(.ref b73)])) t → Steps p.tables e below (T78.setTop (mkF m 31 #[.val (.ref a1), .val (.int (2 : Int32)), .val (.ref b73)] [])) t := fun t k => by
    refine XS.aloadN X78.here hx rfl (hb hby d8_31) rfl rfl ?_
    exact k
  refine WP.st bk79 ?_
  clear bk79
  subst hG
  obtain ⟨fs, hr, hrun, hended, hW, hsame⟩ := X78.leave (v := some (.ref b73)) (fun h => by rw [Bd.returns] at h; cases h)
  refine WP.fin ⟨_, _, ?_, hrun, hended, _, _, rfl, ?_, ⟨_, rfl⟩, hW, hsame.mono (by decide) (by decide)⟩
  · exact retOut X78 hx Bd.returns rfl (Or.inr (Or.inr (Or.inr (Or.inr ⟨rfl, rfl, rfl⟩)))) (hb hby d8_32) hr
  · show Q8k2 Z a1 kl v0 v1 v2 v3 v4 v5 v6 v7 v8 v9 v10 v11 v12 v13 v14 v15 h0 n0 _ T78.heap _
    rw [e78]
    exact ⟨b73, k73, rfl, NF, KP, sz_b73, V_b73⟩
theorem ef_7k2 (m : MethodId) (a1 : Addr) : entryFrame m #[(.ref a1)] 1 = mkF m 0 #[.val (.ref a1)] [] := by first | (simp [entryFrame, mkF, argsToLocals, Value.category]; done) | rfl
def Q7k2 (Z : State) (a1 : Addr) (tl : Addr) (kl : ClassId) (u_delivered : Int64) (u_late : Int64) (v0 : Value) (v1 : Value) (v2 : Value) (v3 : Value) (v4 : Value) (v5 : Value) (v6 : Value) (v7 : Value) (v8 : Value) (v9 : Value) (v10 : Value) (v11 : Value) (v12 : Value) (v13 : Value) (v14 : Value) (v15 : Value) (h0 : Heap) (n0 : Nat) (v : Option Value) (h : Heap) (L : List Loc) : Prop := ∃ r : Addr, ∃ kr : ClassId, v = some (.ref r) ∧ Fr n0 L ∧ Keep h0 h [] ∧ h0.size ≤ r ∧ (Arv Z h r kr .int (2 : Int32) [v0, v1] (.int (0 : Int32)))
set_option maxRecDepth 65536 in
set_option maxHeartbeats 40000000 in
theorem rm7k2 (l : Launch) (Z : State) (a0 : Array Value) (hw : ∀ d ∈ tables_1, d.before a0 Z = true) (ws : List Jvm.Cond) (a1 : Addr) (tl : Addr) (kl : ClassId) (u_delivered : Int64) (u_late : Int64) (v0 : Value) (v1 : Value) (v2 : Value) (v3 : Value) (v4 : Value) (v5 : Value) (v6 : Value) (v7 : Value) (v8 : Value) (v9 : Value) (v10 : Value) (v11 : Value) (v12 : Value) (v13 : Value) (v14 : Value) (v15 : Value) (h0 : Heap) (n0 : Nat) (Z0 : n0 ≤ h0.size) (F_a1_latenciesMicros : Fld Z h0 a1 "com/example/otayori/otayori/bench/PairTally" "latenciesMicros" "[I" (.ref tl)) (F_a1_delivered : Fld Z h0 a1 "com/example/otayori/otayori/bench/PairTally" "delivered" "J" (.long u_delivered)) (F_a1_late : Fld Z h0 a1 "com/example/otayori/otayori/bench/PairTally" "late" "J" (.long u_late)) (V_tl : Arv Z h0 tl kl .int (16 : Int32) [v0, v1, v2, v3, v4, v5, v6, v7, v8, v9, v10, v11, v12, v13, v14, v15] (.int (0 : Int32))) (hde : u_delivered + u_late = (2 : Int64)) :
    MetFree l (⟨"com/example/otayori/otayori/bench/PairTally", "latencies", "()[I"⟩ : MethodName) (head1 (Jvm.Cond.code (⟨"com/example/otayori/otayori/bench/PairTally", "latencies", "()[I"⟩ : MethodName) prog_3_method_9_code 1 (some (.array .int)) :: ws) ({ frames := 2, cells := 1, slots := 2, locals := 32 } : Room)) (fun a U => a = #[(.ref a1)] ∧ Z.Warmed39 U.vm ∧ U.heap = h0) (fun _ _ _ _ _ => True) (fun _ U o U' => ∃ v L, o = .returned v ∧ Q7k2 Z a1 tl kl u_delivered u_late v0 v1 v2 v3 v4 v5 v6 v7 v8 v9 v10 v11 v12 v13 v14 v15 h0 n0 v U'.heap L ∧ FrameEnd U o U' L ({ frames := 2, cells := 1, slots := 2, locals := 32 } : Room).cells ({ frames := 2, cells := 1, slots := 2, locals := 32 } : Room).slots) := by
  refine MetFree.of_bodySF (plainFor_of_name pn_0) hisR ?_
  intro p e s m args below meth c s₁ Bd hml0 hP hK
  obtain ⟨rfl, hZ, hh⟩ := hP
  have hx := Bd.exec
  have hby := Bd.bytes
  have hml : c.maxLocals = 1 := hml0
  have hown : s.vm.findClass "com/example/otayori/otayori/bench/PairTally" = some m.cls := findClass_of_methodNamed Bd.named
  have hnm := (name_of_methodNamed Bd.named Bd.method).1
  have X0 : Stand p l e ({ frames := 2, cells := 1, slots := 2, locals := 32 } : Room) s m #[(.ref a1)] below meth c s₁ [] 0 0 := Stand.of_body Bd
  have e0 : s₁.heap = h0 := by rw [← hh, Bd.state]; rfl
  have NF := Fr.nil n0
  have KP : Keep h0 h0 [] := Keep.refl h0 _
  refine WP.go ?_
  refine WP.cast (ef_7k2 m a1) ?_
  refine WP.name ?_
  intro G hG
  have bk80 : ∀ t, Steps p.tables e below (s₁.setTop (mkF m 1 #[.val (.ref a1)] [(.ref a1)])) t → Steps p.tables e below (s₁.setTop (mkF m 0 #[.val (.ref a1)] [])) t := fun t k => by
    refine XS.aloadN X0.here hx rfl (hb hby d7_0) rfl rfl ?_
    exact k
  refine WP.st bk80 ?_
  clear bk80
  obtain ⟨T81, X81, e81, st81⟩ := getF X0 hx hZ hown (host := "") (Or.inl (hw _ (List.mem_of_getElem? (i := 12) rfl))) Via.refl e0 F_a1_latenciesMicros (g := (mkF m 1 #[.val (.ref a1)] [(.ref a1)])) rfl rfl (hb hby d7_1)
  refine WP.st st81 ?_
  clear st81
  show WP p.tables e below _ T81 (mkF m 4 #[.val (.ref a1)] [(.ref tl)])
  have bk82 : ∀ t, Steps p.tables e below (T81.setTop (mkF m 5 #[.val (.ref a1)] [(.ref a1), (.ref tl)])) t → Steps p.tables e below (T81.setTop (mkF m 4 #[.val (.ref a1)] [(.ref tl)])) t := fun t k => by
    refine XS.aloadN X81.here hx rfl (hb hby d7_4) rfl rfl ?_
    exact k
  refine WP.st bk82 ?_
  clear bk82
  obtain ⟨T83, X83, e83, st83⟩ := getF X81 hx hZ hown (host := "") (Or.inl (hw _ (List.mem_of_getElem? (i := 24) rfl))) Via.refl e81 F_a1_delivered (g := (mkF m 5 #[.val (.ref a1)] [(.ref a1), (.ref tl)])) rfl rfl (hb hby d7_5)
  refine WP.st st83 ?_
  clear st83
  show WP p.tables e below _ T83 (mkF m 8 #[.val (.ref a1)] [(.long u_delivered), (.ref tl)])
  have bk84 : ∀ t, Steps p.tables e below (T83.setTop (mkF m 9 #[.val (.ref a1)] [(.ref a1), (.long u_delivered), (.ref tl)])) t → Steps p.tables e below (T83.setTop (mkF m 8 #[.val (.ref a1)] [(.long u_delivered), (.ref tl)])) t := fun t k => by
    refine XS.aloadN X83.here hx rfl (hb hby d7_8) rfl rfl ?_
    exact k
  refine WP.st bk84 ?_
  clear bk84
  obtain ⟨T85, X85, e85, st85⟩ := getF X83 hx hZ hown (host := "") (Or.inl (hw _ (List.mem_of_getElem? (i := 26) rfl))) Via.refl e83 F_a1_late (g := (mkF m 9 #[.val (.ref a1)] [(.ref a1), (.long u_delivered), (.ref tl)])) rfl rfl (hb hby d7_9)
  refine WP.st st85 ?_
  clear st85
  show WP p.tables e below _ T85 (mkF m 12 #[.val (.ref a1)] [(.long u_late), (.long u_delivered), (.ref tl)])
  have bk86 : ∀ t, Steps p.tables e below (T85.setTop (mkF m 14 #[.val (.ref a1)] [(.int ((u_delivered + u_late).toInt32)), (.ref tl)])) t → Steps p.tables e below (T85.setTop (mkF m 12 #[.val (.ref a1)] [(.long u_late), (.long u_delivered), (.ref tl)])) t := fun t k => by
    refine XS.ladd X85.here hx rfl (hb hby d7_12) rfl ?_
    refine XS.l2i X85.here hx rfl (hb hby d7_13) rfl ?_
    exact k
  refine WP.st bk86 ?_
  clear bk86
  rw [show ((u_delivered + u_late).toInt32) = (2 : Int32) from by rw [hde]; decide]
  show WP p.tables e below _ T85 (mkF m 14 #[.val (.ref a1)] [(.int (2 : Int32)), (.ref tl)])
  obtain ⟨_, _, ⟨T87, L87, k87, n87⟩, -, X87, ⟨Lc87, hQ87, l87, y87, z87⟩, st87⟩ := Jvm.LawKit.callS X85 hx (y := (⟨"java/util/Arrays", "copyOf", "([II)[I"⟩ : MethodName)) hown (mvT hZ (hw _ (List.mem_of_getElem? (i := 53) rfl))) (mvT hZ (hw _ (List.mem_of_getElem? (i := 54) rfl))) (mvT hZ (hw _ (List.mem_of_getElem? (i := 55) rfl))) (mvT hZ (hw _ (List.mem_of_getElem? (i := 56) rfl))) (by decide) (backOf (W := 0) (rm8k2 l Z a0 hw [] tl kl v0 v1 v2 v3 v4 v5 v6 v7 v8 v9 v10 v11 v12 v13 v14 v15 h0 n0 Z0 V_tl) hZ (hw _ (List.mem_of_getElem? (i := 56) rfl)) (hw _ (List.mem_of_getElem? (i := 55) rfl)) (by decide) (by decide)) (g := (mkF m 14 #[.val (.ref a1)] [(.int (2 : Int32)), (.ref tl)])) rfl (by rw [hml]; rfl) (argsL := [(.ref tl), (.int (2 : Int32))]) (rest := []) (lenOf pd_1 rfl) rfl (by show 2 * 0 + _ ≤ _; exact Nat.le_of_eq rfl) (hb hby d7_14) (fun _ _ => ⟨rfl, e85, (by decide : 0 + 1 ≤ _), (by decide : 0 + 2 ≤ _)⟩)
  dsimp only [Pt.U, Pt.locs, Pt.cells, Pt.slots] at X87 l87 y87 z87 st87 hQ87
  subst l87 y87 z87
  obtain ⟨r_87, kr_87, rfl, Nq87, Kq87, szq_r_87, nA87_r_87⟩ := hQ87
  replace NF := Fr.app NF Nq87
  clear Nq87
  refine WP.st st87 ?_
  clear st87
  obtain ⟨h87, e87⟩ : ∃ h, T87.heap = h := ⟨_, rfl⟩
  rw [e87] at Kq87 nA87_r_87
  have ne_a1_r_87 : a1 ≠ r_87 := Nat.ne_of_lt (Nat.lt_of_lt_of_le F_a1_latenciesMicros.lt szq_r_87)
  have ne_tl_r_87 : tl ≠ r_87 := Nat.ne_of_lt (Nat.lt_of_lt_of_le V_tl.lt szq_r_87)
  have sz_r_87 : h0.size ≤ r_87 := Nat.le_trans KP.1 szq_r_87
  replace F_a1_latenciesMicros := F_a1_latenciesMicros.keep Kq87 (by exact nin0)
  replace F_a1_delivered := F_a1_delivered.keep Kq87 (by exact nin0)
  replace F_a1_late := F_a1_late.keep Kq87 (by exact nin0)
  replace V_tl := V_tl.keep Kq87 (by exact nin0)
  replace Z0 := Nat.le_trans Z0 Kq87.1
  replace KP := KP.trans Kq87 all0
  clear Kq87
  have V_r_87 := nA87_r_87
  clear nA87_r_87
  show WP p.tables e below _ T87 (mkF m 17 #[.val (.ref a1)] [(.ref r_87)])
  subst hG
  obtain ⟨fs, hr, hrun, hended, hW, hsame⟩ := X87.leave (v := some (.ref r_87)) (fun h => by rw [Bd.returns] at h; cases h)
  refine WP.fin ⟨_, _, ?_, hrun, hended, _, _, rfl, ?_, ⟨_, rfl⟩, hW, hsame.mono (by decide) (by decide)⟩
  · exact retOut X87 hx Bd.returns rfl (Or.inr (Or.inr (Or.inr (Or.inr ⟨rfl, rfl, rfl⟩)))) (hb hby d7_17) hr
  · show Q7k2 Z a1 tl kl u_delivered u_late v0 v1 v2 v3 v4 v5 v6 v7 v8 v9 v10 v11 v12 v13 v14 v15 h0 n0 _ T87.heap _
    rw [e87]
    exact ⟨r_87, kr_87, rfl, NF, KP, sz_r_87, V_r_87⟩
theorem ef_8k3 (m : MethodId) (a1 : Addr) : entryFrame m #[(.ref a1), (.int (3 : Int32))] 3 = mkF m 0 #[.val (.ref a1), .val (.int (3 : Int32)), .unset] [] := by first | (simp [entryFrame, mkF, argsToLocals, Value.category]; done) | rfl
def Q8k3 (Z : State) (a1 : Addr) (kl : ClassId) (v0 : Value) (v1 : Value) (v2 : Value) (v3 : Value) (v4 : Value) (v5 : Value) (v6 : Value) (v7 : Value) (v8 : Value) (v9 : Value) (v10 : Value) (v11 : Value) (v12 : Value) (v13 : Value) (v14 : Value) (v15 : Value) (h0 : Heap) (n0 : Nat) (v : Option Value) (h : Heap) (L : List Loc) : Prop := ∃ r : Addr, ∃ kr : ClassId, v = some (.ref r) ∧ Fr n0 L ∧ Keep h0 h [] ∧ h0.size ≤ r ∧ (Arv Z h r kr .int (3 : Int32) [v0, v1, v2] (.int (0 : Int32)))
set_option maxRecDepth 65536 in
set_option maxHeartbeats 40000000 in
theorem rm8k3 (l : Launch) (Z : State) (a0 : Array Value) (hw : ∀ d ∈ tables_1, d.before a0 Z = true) (ws : List Jvm.Cond) (a1 : Addr) (kl : ClassId) (v0 : Value) (v1 : Value) (v2 : Value) (v3 : Value) (v4 : Value) (v5 : Value) (v6 : Value) (v7 : Value) (v8 : Value) (v9 : Value) (v10 : Value) (v11 : Value) (v12 : Value) (v13 : Value) (v14 : Value) (v15 : Value) (h0 : Heap) (n0 : Nat) (Z0 : n0 ≤ h0.size) (V_a1 : Arv Z h0 a1 kl .int (16 : Int32) [v0, v1, v2, v3, v4, v5, v6, v7, v8, v9, v10, v11, v12, v13, v14, v15] (.int (0 : Int32))) :
    MetFree l (⟨"java/util/Arrays", "copyOf", "([II)[I"⟩ : MethodName) (head1 (Jvm.Cond.code (⟨"java/util/Arrays", "copyOf", "([II)[I"⟩ : MethodName) jdk_65_method_123_code 3 (some (.array .int)) :: ws) ({ frames := 1, cells := 1, slots := 3, locals := 18 } : Room)) (fun a U => a = #[(.ref a1), (.int (3 : Int32))] ∧ Z.Warmed39 U.vm ∧ U.heap = h0) (fun _ _ _ _ _ => True) (fun _ U o U' => ∃ v L, o = .returned v ∧ Q8k3 Z a1 kl v0 v1 v2 v3 v4 v5 v6 v7 v8 v9 v10 v11 v12 v13 v14 v15 h0 n0 v U'.heap L ∧ FrameEnd U o U' L ({ frames := 1, cells := 1, slots := 3, locals := 18 } : Room).cells ({ frames := 1, cells := 1, slots := 3, locals := 18 } : Room).slots) := by
  refine MetFree.of_bodySF (plainFor_of_name pn_2) hisR ?_
  intro p e s m args below meth c s₁ Bd hml0 hP hK
  obtain ⟨rfl, hZ, hh⟩ := hP
  have hx := Bd.exec
  have hby := Bd.bytes
  have hml : c.maxLocals = 3 := hml0
  have hown : s.vm.findClass "java/util/Arrays" = some m.cls := findClass_of_methodNamed Bd.named
  have hnm := (name_of_methodNamed Bd.named Bd.method).1
  have X0 : Stand p l e ({ frames := 1, cells := 1, slots := 3, locals := 18 } : Room) s m #[(.ref a1), (.int (3 : Int32))] below meth c s₁ [] 0 0 := Stand.of_body Bd
  have e0 : s₁.heap = h0 := by rw [← hh, Bd.state]; rfl
  have NF := Fr.nil n0
  have KP : Keep h0 h0 [] := Keep.refl h0 _
  refine WP.go ?_
  refine WP.cast (ef_8k3 m a1) ?_
  refine WP.name ?_
  intro G hG
  have bk88 : ∀ t, Steps p.tables e below (s₁.setTop (mkF m 2 #[.val (.ref a1), .val (.int (3 : Int32)), .unset] [(.ref a1), (.int (3 : Int32))])) t → Steps p.tables e below (s₁.setTop (mkF m 0 #[.val (.ref a1), .val (.int (3 : Int32)), .unset] [])) t := fun t k => by
    refine XS.iloadN X0.here hx rfl (hb hby d8_0) rfl ?_
    refine XS.aloadN X0.here hx rfl (hb hby d8_1) rfl rfl ?_
    exact k
  refine WP.st bk88 ?_
  clear bk88
  obtain ⟨cl89, Ar89, len89⟩ := V_a1.len
  have bk90 : ∀ t, Steps p.tables e below (s₁.setTop (mkF m 15 #[.val (.ref a1), .val (.int (3 : Int32)), .unset] [(.int (3 : Int32))])) t → Steps p.tables e below (s₁.setTop (mkF m 2 #[.val (.ref a1), .val (.int (3 : Int32)), .unset] [(.ref a1), (.int (3 : Int32))])) t := fun t k => by
    refine X0.arraylength hx (by rw [e0]; exact Ar89.1) (State.isArrayOf_alike hZ.alike Ar89.2.1) (g := (mkF m 2 #[.val (.ref a1), .val (.int (3 : Int32)), .unset] [(.ref a1), (.int (3 : Int32))])) rfl rfl (hb hby d8_2) _ ?_
    rw [len89]
    refine XS.icmpYes X0.here hx rfl (pc0 := 3) (pc' := 14) rfl (hb hby d8_3) rfl (feq (by decide : ¬ ((3 : Int32) = (16 : Int32)))).2 (by decide) (by decide) ?_
    refine XS.iloadN X0.here hx rfl (hb hby d8_14) rfl ?_
    exact k
  refine WP.st bk90 ?_
  clear bk90
  obtain ⟨T91, h91, k91, X91, e91, E91, A91, st91⟩ := newP X0 hx hZ (hw _ (List.mem_of_getElem? (i := 11) rfl)) e0 (g := (mkF m 15 #[.val (.ref a1), .val (.int (3 : Int32)), .unset] [(.int (3 : Int32))])) rfl (hb hby d8_15) rfl (by decide) (cap := 3) (by decide) (by decide) (by decide) (by decide)
  obtain ⟨b91, g91⟩ : ∃ z, z = h0.size := ⟨_, rfl⟩
  rw [← g91] at A91 st91
  refine WP.st st91 ?_
  clear st91
  have ne_a1_b91 : a1 ≠ b91 := Nat.ne_of_lt (Nat.lt_of_lt_of_le V_a1.lt (Nat.le_of_eq g91.symm))
  have g_b91 : n0 ≤ b91 := Nat.le_trans Z0 (Nat.le_of_eq g91.symm)
  have sz_b91 : h0.size ≤ b91 := Nat.le_trans KP.1 (Nat.le_of_eq g91.symm)
  replace V_a1 := V_a1.ext E91
  replace Z0 := Nat.le_trans Z0 E91.1
  replace KP := KP.ext E91
  have V_b91 : Arv Z h91 b91 k91 .int (3 : Int32) [(.int (0 : Int32)), (.int (0 : Int32)), (.int (0 : Int32))] (.int (0 : Int32)) := (Arv.new A91 (by decide)).pad (pad_rep [] (.int (0 : Int32)) 3)
  show WP p.tables e below _ T91 (mkF m 17 #[.val (.ref a1), .val (.int (3 : Int32)), .unset] [(.ref b91)])
  have bk92 : ∀ t, Steps p.tables e below (T91.setTop (mkF m 23 #[.val (.ref a1), .val (.int (3 : Int32)), .val (.ref b91)] [(.ref a1), (.int (0 : Int32)), (.ref b91), (.int (0 : Int32)), (.ref a1)])) t → Steps p.tables e below (T91.setTop (mkF m 17 #[.val (.ref a1), .val (.int (3 : Int32)), .unset] [(.ref b91)])) t := fun t k => by
    refine XS.astoreN X91.here hx rfl (hb hby d8_17) rfl rfl (l' := #[.val (.ref a1), .val (.int (3 : Int32)), .val (.ref b91)]) rfl ?_
    refine XS.aloadN X91.here hx rfl (hb hby d8_18) rfl rfl ?_
    refine XS.iconst X91.here hx rfl (hb hby d8_19) ?_
    refine XS.aloadN X91.here hx rfl (hb hby d8_20) rfl rfl ?_
    show Steps p.tables e below (T91.setTop (mkF m 21 #[.val (.ref a1), .val (.int (3 : Int32)), .val (.ref b91)] [(.ref b91), (.int (0 : Int32)), (.ref a1)])) t
    refine XS.iconst X91.here hx rfl (hb hby d8_21) ?_
    refine XS.aloadN X91.here hx rfl (hb hby d8_22) rfl rfl ?_
    exact k
  refine WP.st bk92 ?_
  clear bk92
  obtain ⟨cl93, Ar93, len93⟩ := V_a1.len
  have bk94 : ∀ t, Steps p.tables e below (T91.setTop (mkF m 25 #[.val (.ref a1), .val (.int (3 : Int32)), .val (.ref b91)] [(.int (3 : Int32)), (.int (16 : Int32)), (.int (0 : Int32)), (.ref b91), (.int (0 : Int32)), (.ref a1)])) t → Steps p.tables e below (T91.setTop (mkF m 23 #[.val (.ref a1), .val (.int (3 : Int32)), .val (.ref b91)] [(.ref a1), (.int (0 : Int32)), (.ref b91), (.int (0 : Int32)), (.ref a1)])) t := fun t k => by
    refine X91.arraylength hx (by rw [e91]; exact Ar93.1) (State.isArrayOf_alike hZ.alike Ar93.2.1) (g := (mkF m 23 #[.val (.ref a1), .val (.int (3 : Int32)), .val (.ref b91)] [(.ref a1), (.int (0 : Int32)), (.ref b91), (.int (0 : Int32)), (.ref a1)])) rfl rfl (hb hby d8_23) _ ?_
    rw [len93]
    refine XS.iloadN X91.here hx rfl (hb hby d8_24) rfl ?_
    exact k
  refine WP.st bk94 ?_
  clear bk94
  obtain ⟨_, _, ⟨T95, L95, k95, n95⟩, -, X95, ⟨Lc95, hQ95, l95, y95, z95⟩, st95⟩ := Jvm.LawKit.callS X91 hx (y := (⟨"java/lang/Math", "min", "(II)I"⟩ : MethodName)) hown (mvT hZ (hw _ (List.mem_of_getElem? (i := 57) rfl))) (mvT hZ (hw _ (List.mem_of_getElem? (i := 58) rfl))) (mvT hZ (hw _ (List.mem_of_getElem? (i := 32) rfl))) (mvT hZ (hw _ (List.mem_of_getElem? (i := 59) rfl))) (by decide) (backOf (W := 4) (rm9 l Z a0 hw [] (16 : Int32) (3 : Int32) h91 n0 Z0 ) hZ (hw _ (List.mem_of_getElem? (i := 59) rfl)) (hw _ (List.mem_of_getElem? (i := 32) rfl)) (by decide) (by decide)) (g := (mkF m 25 #[.val (.ref a1), .val (.int (3 : Int32)), .val (.ref b91)] [(.int (3 : Int32)), (.int (16 : Int32)), (.int (0 : Int32)), (.ref b91), (.int (0 : Int32)), (.ref a1)])) rfl (by rw [hml]; rfl) (argsL := [(.int (16 : Int32)), (.int (3 : Int32))]) (rest := [(.int (0 : Int32)), (.ref b91), (.int (0 : Int32)), (.ref a1)]) (lenOf pd_0 rfl) rfl (by show 2 * 0 + _ ≤ _; exact Nat.le_of_eq rfl) (hb hby d8_25) (fun _ _ => ⟨rfl, e91, (by decide : 1 + 0 ≤ _), (by decide : 3 + 0 ≤ _)⟩)
  dsimp only [Pt.U, Pt.locs, Pt.cells, Pt.slots] at X95 l95 y95 z95 st95 hQ95
  subst l95 y95 z95
  obtain ⟨rfl, Nq95, Kq95⟩ := hQ95
  replace NF := Fr.app NF Nq95
  clear Nq95
  refine WP.st st95 ?_
  clear st95
  replace Kq95 := Kq95.trans (rfl : h91 = h91)
  show WP p.tables e below _ T95 (mkF m 28 #[.val (.ref a1), .val (.int (3 : Int32)), .val (.ref b91)] [(.int (own_min (16 : Int32) (3 : Int32))), (.int (0 : Int32)), (.ref b91), (.int (0 : Int32)), (.ref a1)])
  rw [show (own_min (16 : Int32) (3 : Int32)) = (3 : Int32) from by decide]
  show WP p.tables e below _ T95 (mkF m 28 #[.val (.ref a1), .val (.int (3 : Int32)), .val (.ref b91)] [(.int (3 : Int32)), (.int (0 : Int32)), (.ref b91), (.int (0 : Int32)), (.ref a1)])
  obtain ⟨T96, h96, Lq96, X96, e96, Nq96, Kq96, Vq96, st96⟩ := cpA X95 hx hZ hown (hw _ (List.mem_of_getElem? (i := 60) rfl)) (hw _ (List.mem_of_getElem? (i := 63) rfl)) (hw _ (List.mem_of_getElem? (i := 61) rfl)) (hw _ (List.mem_of_getElem? (i := 62) rfl)) Kq95 V_a1 V_b91 (Or.inl ⟨rfl, rfl⟩) (by decide) (by decide) (by decide) (by decide) (by decide) (us := [v0, v1, v2]) rfl (Nat.le_of_ble_eq_true rfl) NF g_b91 (g := (mkF m 28 #[.val (.ref a1), .val (.int (3 : Int32)), .val (.ref b91)] [(.int (3 : Int32)), (.int (0 : Int32)), (.ref b91), (.int (0 : Int32)), (.ref a1)])) rfl (by rw [hml]; rfl) rfl (hb hby d8_28) (by decide) (W := 0) (by show 2 * 0 + _ ≤ _; exact Nat.le_of_eq rfl) (by decide)
  refine WP.st st96 ?_
  clear st96
  replace NF := Nq96
  replace Vq96 : Arv Z h96 b91 k91 .int (3 : Int32) [v0, v1, v2] (.int (0 : Int32)) := Vq96
  clear V_b91
  replace V_a1 := V_a1.keep Kq96 (by exact ninS ne_a1_b91 (nin0))
  replace Z0 := Nat.le_trans Z0 Kq96.1
  replace KP := KP.trans Kq96 (allS (Or.inr sz_b91) all0)
  have V_b91 := Vq96
  clear Vq96 Kq96
  show WP p.tables e below _ T96 (mkF m 31 #[.val (.ref a1), .val (.int (3 : Int32)), .val (.ref b91)] [])
  have bk97 : ∀ t, Steps p.tables e below (T96.setTop (mkF m 32 #[.val (.ref a1), .val (.int (3 : Int32)), .val (.ref b91)] [(.ref b91)])) t → Steps p.tables e below (T96.setTop (mkF m 31 #[.val (.ref a1), .val (.int (3 : Int32)), .val (.ref b91)] [])) t := fun t k => by
    refine XS.aloadN X96.here hx rfl (hb hby d8_31) rfl rfl ?_
    exact k
  refine WP.st bk97 ?_
  clear bk97
  subst hG
  obtain ⟨fs, hr, hrun, hended, hW, hsame⟩ := X96.leave (v := some (.ref b91)) (fun h => by rw [Bd.returns] at h; cases h)
  refine WP.fin ⟨_, _, ?_, hrun, hended, _, _, rfl, ?_, ⟨_, rfl⟩, hW, hsame.mono (by decide) (by decide)⟩
  · exact retOut X96 hx Bd.returns rfl (Or.inr (Or.inr (Or.inr (Or.inr ⟨rfl, rfl, rfl⟩)))) (hb hby d8_32) hr
  · show Q8k3 Z a1 kl v0 v1 v2 v3 v4 v5 v6 v7 v8 v9 v10 v11 v12 v13 v14 v15 h0 n0 _ T96.heap _
    rw [e96]
    exact ⟨b91, k91, rfl, NF, KP, sz_b91, V_b91⟩
theorem ef_7k3 (m : MethodId) (a1 : Addr) : entryFrame m #[(.ref a1)] 1 = mkF m 0 #[.val (.ref a1)] [] := by first | (simp [entryFrame, mkF, argsToLocals, Value.category]; done) | rfl
def Q7k3 (Z : State) (a1 : Addr) (tl : Addr) (kl : ClassId) (u_delivered : Int64) (u_late : Int64) (v0 : Value) (v1 : Value) (v2 : Value) (v3 : Value) (v4 : Value) (v5 : Value) (v6 : Value) (v7 : Value) (v8 : Value) (v9 : Value) (v10 : Value) (v11 : Value) (v12 : Value) (v13 : Value) (v14 : Value) (v15 : Value) (h0 : Heap) (n0 : Nat) (v : Option Value) (h : Heap) (L : List Loc) : Prop := ∃ r : Addr, ∃ kr : ClassId, v = some (.ref r) ∧ Fr n0 L ∧ Keep h0 h [] ∧ h0.size ≤ r ∧ (Arv Z h r kr .int (3 : Int32) [v0, v1, v2] (.int (0 : Int32)))
set_option maxRecDepth 65536 in
set_option maxHeartbeats 40000000 in
theorem rm7k3 (l : Launch) (Z : State) (a0 : Array Value) (hw : ∀ d ∈ tables_1, d.before a0 Z = true) (ws : List Jvm.Cond) (a1 : Addr) (tl : Addr) (kl : ClassId) (u_delivered : Int64) (u_late : Int64) (v0 : Value) (v1 : Value) (v2 : Value) (v3 : Value) (v4 : Value) (v5 : Value) (v6 : Value) (v7 : Value) (v8 : Value) (v9 : Value) (v10 : Value) (v11 : Value) (v12 : Value) (v13 : Value) (v14 : Value) (v15 : Value) (h0 : Heap) (n0 : Nat) (Z0 : n0 ≤ h0.size) (F_a1_latenciesMicros : Fld Z h0 a1 "com/example/otayori/otayori/bench/PairTally" "latenciesMicros" "[I" (.ref tl)) (F_a1_delivered : Fld Z h0 a1 "com/example/otayori/otayori/bench/PairTally" "delivered" "J" (.long u_delivered)) (F_a1_late : Fld Z h0 a1 "com/example/otayori/otayori/bench/PairTally" "late" "J" (.long u_late)) (V_tl : Arv Z h0 tl kl .int (16 : Int32) [v0, v1, v2, v3, v4, v5, v6, v7, v8, v9, v10, v11, v12, v13, v14, v15] (.int (0 : Int32))) (hde : u_delivered + u_late = (3 : Int64)) :
    MetFree l (⟨"com/example/otayori/otayori/bench/PairTally", "latencies", "()[I"⟩ : MethodName) (head1 (Jvm.Cond.code (⟨"com/example/otayori/otayori/bench/PairTally", "latencies", "()[I"⟩ : MethodName) prog_3_method_9_code 1 (some (.array .int)) :: ws) ({ frames := 2, cells := 1, slots := 3, locals := 32 } : Room)) (fun a U => a = #[(.ref a1)] ∧ Z.Warmed39 U.vm ∧ U.heap = h0) (fun _ _ _ _ _ => True) (fun _ U o U' => ∃ v L, o = .returned v ∧ Q7k3 Z a1 tl kl u_delivered u_late v0 v1 v2 v3 v4 v5 v6 v7 v8 v9 v10 v11 v12 v13 v14 v15 h0 n0 v U'.heap L ∧ FrameEnd U o U' L ({ frames := 2, cells := 1, slots := 3, locals := 32 } : Room).cells ({ frames := 2, cells := 1, slots := 3, locals := 32 } : Room).slots) := by
  refine MetFree.of_bodySF (plainFor_of_name pn_0) hisR ?_
  intro p e s m args below meth c s₁ Bd hml0 hP hK
  obtain ⟨rfl, hZ, hh⟩ := hP
  have hx := Bd.exec
  have hby := Bd.bytes
  have hml : c.maxLocals = 1 := hml0
  have hown : s.vm.findClass "com/example/otayori/otayori/bench/PairTally" = some m.cls := findClass_of_methodNamed Bd.named
  have hnm := (name_of_methodNamed Bd.named Bd.method).1
  have X0 : Stand p l e ({ frames := 2, cells := 1, slots := 3, locals := 32 } : Room) s m #[(.ref a1)] below meth c s₁ [] 0 0 := Stand.of_body Bd
  have e0 : s₁.heap = h0 := by rw [← hh, Bd.state]; rfl
  have NF := Fr.nil n0
  have KP : Keep h0 h0 [] := Keep.refl h0 _
  refine WP.go ?_
  refine WP.cast (ef_7k3 m a1) ?_
  refine WP.name ?_
  intro G hG
  have bk98 : ∀ t, Steps p.tables e below (s₁.setTop (mkF m 1 #[.val (.ref a1)] [(.ref a1)])) t → Steps p.tables e below (s₁.setTop (mkF m 0 #[.val (.ref a1)] [])) t := fun t k => by
    refine XS.aloadN X0.here hx rfl (hb hby d7_0) rfl rfl ?_
    exact k
  refine WP.st bk98 ?_
  clear bk98
  obtain ⟨T99, X99, e99, st99⟩ := getF X0 hx hZ hown (host := "") (Or.inl (hw _ (List.mem_of_getElem? (i := 12) rfl))) Via.refl e0 F_a1_latenciesMicros (g := (mkF m 1 #[.val (.ref a1)] [(.ref a1)])) rfl rfl (hb hby d7_1)
  refine WP.st st99 ?_
  clear st99
  show WP p.tables e below _ T99 (mkF m 4 #[.val (.ref a1)] [(.ref tl)])
  have bk100 : ∀ t, Steps p.tables e below (T99.setTop (mkF m 5 #[.val (.ref a1)] [(.ref a1), (.ref tl)])) t → Steps p.tables e below (T99.setTop (mkF m 4 #[.val (.ref a1)] [(.ref tl)])) t := fun t k => by
    refine XS.aloadN X99.here hx rfl (hb hby d7_4) rfl rfl ?_
    exact k
  refine WP.st bk100 ?_
  clear bk100
  obtain ⟨T101, X101, e101, st101⟩ := getF X99 hx hZ hown (host := "") (Or.inl (hw _ (List.mem_of_getElem? (i := 24) rfl))) Via.refl e99 F_a1_delivered (g := (mkF m 5 #[.val (.ref a1)] [(.ref a1), (.ref tl)])) rfl rfl (hb hby d7_5)
  refine WP.st st101 ?_
  clear st101
  show WP p.tables e below _ T101 (mkF m 8 #[.val (.ref a1)] [(.long u_delivered), (.ref tl)])
  have bk102 : ∀ t, Steps p.tables e below (T101.setTop (mkF m 9 #[.val (.ref a1)] [(.ref a1), (.long u_delivered), (.ref tl)])) t → Steps p.tables e below (T101.setTop (mkF m 8 #[.val (.ref a1)] [(.long u_delivered), (.ref tl)])) t := fun t k => by
    refine XS.aloadN X101.here hx rfl (hb hby d7_8) rfl rfl ?_
    exact k
  refine WP.st bk102 ?_
  clear bk102
  obtain ⟨T103, X103, e103, st103⟩ := getF X101 hx hZ hown (host := "") (Or.inl (hw _ (List.mem_of_getElem? (i := 26) rfl))) Via.refl e101 F_a1_late (g := (mkF m 9 #[.val (.ref a1)] [(.ref a1), (.long u_delivered), (.ref tl)])) rfl rfl (hb hby d7_9)
  refine WP.st st103 ?_
  clear st103
  show WP p.tables e below _ T103 (mkF m 12 #[.val (.ref a1)] [(.long u_late), (.long u_delivered), (.ref tl)])
  have bk104 : ∀ t, Steps p.tables e below (T103.setTop (mkF m 14 #[.val (.ref a1)] [(.int ((u_delivered + u_late).toInt32)), (.ref tl)])) t → Steps p.tables e below (T103.setTop (mkF m 12 #[.val (.ref a1)] [(.long u_late), (.long u_delivered), (.ref tl)])) t := fun t k => by
    refine XS.ladd X103.here hx rfl (hb hby d7_12) rfl ?_
    refine XS.l2i X103.here hx rfl (hb hby d7_13) rfl ?_
    exact k
  refine WP.st bk104 ?_
  clear bk104
  rw [show ((u_delivered + u_late).toInt32) = (3 : Int32) from by rw [hde]; decide]
  show WP p.tables e below _ T103 (mkF m 14 #[.val (.ref a1)] [(.int (3 : Int32)), (.ref tl)])
  obtain ⟨_, _, ⟨T105, L105, k105, n105⟩, -, X105, ⟨Lc105, hQ105, l105, y105, z105⟩, st105⟩ := Jvm.LawKit.callS X103 hx (y := (⟨"java/util/Arrays", "copyOf", "([II)[I"⟩ : MethodName)) hown (mvT hZ (hw _ (List.mem_of_getElem? (i := 53) rfl))) (mvT hZ (hw _ (List.mem_of_getElem? (i := 54) rfl))) (mvT hZ (hw _ (List.mem_of_getElem? (i := 55) rfl))) (mvT hZ (hw _ (List.mem_of_getElem? (i := 56) rfl))) (by decide) (backOf (W := 0) (rm8k3 l Z a0 hw [] tl kl v0 v1 v2 v3 v4 v5 v6 v7 v8 v9 v10 v11 v12 v13 v14 v15 h0 n0 Z0 V_tl) hZ (hw _ (List.mem_of_getElem? (i := 56) rfl)) (hw _ (List.mem_of_getElem? (i := 55) rfl)) (by decide) (by decide)) (g := (mkF m 14 #[.val (.ref a1)] [(.int (3 : Int32)), (.ref tl)])) rfl (by rw [hml]; rfl) (argsL := [(.ref tl), (.int (3 : Int32))]) (rest := []) (lenOf pd_1 rfl) rfl (by show 2 * 0 + _ ≤ _; exact Nat.le_of_eq rfl) (hb hby d7_14) (fun _ _ => ⟨rfl, e103, (by decide : 0 + 1 ≤ _), (by decide : 0 + 3 ≤ _)⟩)
  dsimp only [Pt.U, Pt.locs, Pt.cells, Pt.slots] at X105 l105 y105 z105 st105 hQ105
  subst l105 y105 z105
  obtain ⟨r_105, kr_105, rfl, Nq105, Kq105, szq_r_105, nA105_r_105⟩ := hQ105
  replace NF := Fr.app NF Nq105
  clear Nq105
  refine WP.st st105 ?_
  clear st105
  obtain ⟨h105, e105⟩ : ∃ h, T105.heap = h := ⟨_, rfl⟩
  rw [e105] at Kq105 nA105_r_105
  have ne_a1_r_105 : a1 ≠ r_105 := Nat.ne_of_lt (Nat.lt_of_lt_of_le F_a1_latenciesMicros.lt szq_r_105)
  have ne_tl_r_105 : tl ≠ r_105 := Nat.ne_of_lt (Nat.lt_of_lt_of_le V_tl.lt szq_r_105)
  have sz_r_105 : h0.size ≤ r_105 := Nat.le_trans KP.1 szq_r_105
  replace F_a1_latenciesMicros := F_a1_latenciesMicros.keep Kq105 (by exact nin0)
  replace F_a1_delivered := F_a1_delivered.keep Kq105 (by exact nin0)
  replace F_a1_late := F_a1_late.keep Kq105 (by exact nin0)
  replace V_tl := V_tl.keep Kq105 (by exact nin0)
  replace Z0 := Nat.le_trans Z0 Kq105.1
  replace KP := KP.trans Kq105 all0
  clear Kq105
  have V_r_105 := nA105_r_105
  clear nA105_r_105
  show WP p.tables e below _ T105 (mkF m 17 #[.val (.ref a1)] [(.ref r_105)])
  subst hG
  obtain ⟨fs, hr, hrun, hended, hW, hsame⟩ := X105.leave (v := some (.ref r_105)) (fun h => by rw [Bd.returns] at h; cases h)
  refine WP.fin ⟨_, _, ?_, hrun, hended, _, _, rfl, ?_, ⟨_, rfl⟩, hW, hsame.mono (by decide) (by decide)⟩
  · exact retOut X105 hx Bd.returns rfl (Or.inr (Or.inr (Or.inr (Or.inr ⟨rfl, rfl, rfl⟩)))) (hb hby d7_17) hr
  · show Q7k3 Z a1 tl kl u_delivered u_late v0 v1 v2 v3 v4 v5 v6 v7 v8 v9 v10 v11 v12 v13 v14 v15 h0 n0 _ T105.heap _
    rw [e105]
    exact ⟨r_105, kr_105, rfl, NF, KP, sz_r_105, V_r_105⟩
theorem ef_3f0 (m : MethodId) (a1 : Addr) (p1 : Int32) (q1 : Int64) (q2 : Int64) (p3 : Int32) : entryFrame m #[(.ref a1), (.int p1), (.long q1), (.long q2), (.int p3)] 12 = mkF m 0 #[.val (.ref a1), .val (.int p1), .val (.long q1), .second, .val (.long q2), .second, .val (.int p3), .unset, .unset, .unset, .unset, .unset] [] := by first | (simp [entryFrame, mkF, argsToLocals, Value.category]; done) | rfl
theorem d3_0 : decode prog_3_method_2_code 0 = .ok (.lconst 1, 1) := by decide +kernel
theorem d3_1 : decode prog_3_method_2_code 1 = .ok (.iload_n 1, 1) := by decide +kernel
theorem d3_2 : decode prog_3_method_2_code 2 = .ok (.bipush 64, 2) := by decide +kernel
theorem d3_4 : decode prog_3_method_2_code 4 = .ok (.irem, 1) := by decide +kernel
theorem d3_5 : decode prog_3_method_2_code 5 = .ok (.lshl, 1) := by decide +kernel
theorem d3_6 : decode prog_3_method_2_code 6 = .ok (.lstore 7, 2) := by decide +kernel
theorem d3_8 : decode prog_3_method_2_code 8 = .ok (.iload_n 1, 1) := by decide +kernel
theorem d3_9 : decode prog_3_method_2_code 9 = .ok (.bipush 64, 2) := by decide +kernel
theorem d3_11 : decode prog_3_method_2_code 11 = .ok (.idiv, 1) := by decide +kernel
theorem d3_12 : decode prog_3_method_2_code 12 = .ok (.istore 9, 2) := by decide +kernel
theorem d3_14 : decode prog_3_method_2_code 14 = .ok (.aload_n 0, 1) := by decide +kernel
theorem d3_15 : decode prog_3_method_2_code 15 = .ok (.getfield 22, 3) := by decide +kernel
theorem d3_18 : decode prog_3_method_2_code 18 = .ok (.iload 9, 2) := by decide +kernel
theorem d3_20 : decode prog_3_method_2_code 20 = .ok (.laload, 1) := by decide +kernel
theorem d3_21 : decode prog_3_method_2_code 21 = .ok (.lload 7, 2) := by decide +kernel
theorem d3_23 : decode prog_3_method_2_code 23 = .ok (.land, 1) := by decide +kernel
theorem d3_24 : decode prog_3_method_2_code 24 = .ok (.lconst 0, 1) := by decide +kernel
theorem d3_25 : decode prog_3_method_2_code 25 = .ok (.lcmp, 1) := by decide +kernel
theorem d3_26 : decode prog_3_method_2_code 26 = .ok (.ifCond .ne 7, 3) := by decide +kernel
theorem d3_29 : decode prog_3_method_2_code 29 = .ok (.iconst 1, 1) := by decide +kernel
theorem d3_30 : decode prog_3_method_2_code 30 = .ok (.goto 4, 3) := by decide +kernel
theorem d3_34 : decode prog_3_method_2_code 34 = .ok (.istore 10, 2) := by decide +kernel
theorem d3_36 : decode prog_3_method_2_code 36 = .ok (.iload 10, 2) := by decide +kernel
theorem d3_38 : decode prog_3_method_2_code 38 = .ok (.ifCond .eq 141, 3) := by decide +kernel
theorem d3_41 : decode prog_3_method_2_code 41 = .ok (.aload_n 0, 1) := by decide +kernel
theorem d3_42 : decode prog_3_method_2_code 42 = .ok (.getfield 22, 3) := by decide +kernel
theorem d3_45 : decode prog_3_method_2_code 45 = .ok (.iload 9, 2) := by decide +kernel
theorem d3_47 : decode prog_3_method_2_code 47 = .ok (.dup2, 1) := by decide +kernel
theorem d3_48 : decode prog_3_method_2_code 48 = .ok (.laload, 1) := by decide +kernel
theorem d3_49 : decode prog_3_method_2_code 49 = .ok (.lload 7, 2) := by decide +kernel
theorem d3_51 : decode prog_3_method_2_code 51 = .ok (.lor, 1) := by decide +kernel
theorem d3_52 : decode prog_3_method_2_code 52 = .ok (.lastore, 1) := by decide +kernel
theorem d3_53 : decode prog_3_method_2_code 53 = .ok (.iload_n 1, 1) := by decide +kernel
theorem d3_54 : decode prog_3_method_2_code 54 = .ok (.aload_n 0, 1) := by decide +kernel
theorem d3_55 : decode prog_3_method_2_code 55 = .ok (.getfield 7, 3) := by decide +kernel
theorem d3_58 : decode prog_3_method_2_code 58 = .ok (.if_icmp .ge 16, 3) := by decide +kernel
theorem d3_61 : decode prog_3_method_2_code 61 = .ok (.aload_n 0, 1) := by decide +kernel
theorem d3_62 : decode prog_3_method_2_code 62 = .ok (.dup, 1) := by decide +kernel
theorem d3_63 : decode prog_3_method_2_code 63 = .ok (.getfield 26, 3) := by decide +kernel
theorem d3_66 : decode prog_3_method_2_code 66 = .ok (.lconst 1, 1) := by decide +kernel
theorem d3_67 : decode prog_3_method_2_code 67 = .ok (.ladd, 1) := by decide +kernel
theorem d3_68 : decode prog_3_method_2_code 68 = .ok (.putfield 26, 3) := by decide +kernel
theorem sn_32 {a0 : Array Value} {Z : State} (hw : ∀ d ∈ tables_1, d.before a0 Z = true) : Jvm.RoadKit.slotOf Z "com/example/otayori/otayori/bench/PairTally" "highestSequence" "I" ≠ Jvm.RoadKit.slotOf Z "com/example/otayori/otayori/bench/PairTally" "outOfOrder" "J" := slot_ne (Or.inl (hw _ (List.mem_of_getElem? (i := 10) rfl))) (Or.inl (hw _ (List.mem_of_getElem? (i := 44) rfl))) (by decide) (t := .int) (t' := .long) (by decide) (by decide)
theorem sn_33 {a0 : Array Value} {Z : State} (hw : ∀ d ∈ tables_1, d.before a0 Z = true) : Jvm.RoadKit.slotOf Z "com/example/otayori/otayori/bench/PairTally" "messages" "I" ≠ Jvm.RoadKit.slotOf Z "com/example/otayori/otayori/bench/PairTally" "outOfOrder" "J" := slot_ne (Or.inr (hw _ (List.mem_of_getElem? (i := 15) rfl))) (Or.inl (hw _ (List.mem_of_getElem? (i := 44) rfl))) (by decide) (t := .int) (t' := .long) (by decide) (by decide)
theorem sn_34 {a0 : Array Value} {Z : State} (hw : ∀ d ∈ tables_1, d.before a0 Z = true) : Jvm.RoadKit.slotOf Z "com/example/otayori/otayori/bench/PairTally" "delivered" "J" ≠ Jvm.RoadKit.slotOf Z "com/example/otayori/otayori/bench/PairTally" "outOfOrder" "J" := slot_ne (Or.inl (hw _ (List.mem_of_getElem? (i := 25) rfl))) (Or.inl (hw _ (List.mem_of_getElem? (i := 44) rfl))) (by decide) (t := .long) (t' := .long) (by decide) (by decide)
theorem sn_35 {a0 : Array Value} {Z : State} (hw : ∀ d ∈ tables_1, d.before a0 Z = true) : Jvm.RoadKit.slotOf Z "com/example/otayori/otayori/bench/PairTally" "late" "J" ≠ Jvm.RoadKit.slotOf Z "com/example/otayori/otayori/bench/PairTally" "outOfOrder" "J" := slot_ne (Or.inl (hw _ (List.mem_of_getElem? (i := 27) rfl))) (Or.inl (hw _ (List.mem_of_getElem? (i := 44) rfl))) (by decide) (t := .long) (t' := .long) (by decide) (by decide)
theorem sn_36 {a0 : Array Value} {Z : State} (hw : ∀ d ∈ tables_1, d.before a0 Z = true) : Jvm.RoadKit.slotOf Z "com/example/otayori/otayori/bench/PairTally" "duplicated" "J" ≠ Jvm.RoadKit.slotOf Z "com/example/otayori/otayori/bench/PairTally" "outOfOrder" "J" := slot_ne (Or.inl (hw _ (List.mem_of_getElem? (i := 47) rfl))) (Or.inl (hw _ (List.mem_of_getElem? (i := 44) rfl))) (by decide) (t := .long) (t' := .long) (by decide) (by decide)
theorem sn_37 {a0 : Array Value} {Z : State} (hw : ∀ d ∈ tables_1, d.before a0 Z = true) : Jvm.RoadKit.slotOf Z "com/example/otayori/otayori/bench/PairTally" "lastDeliveryNanos" "J" ≠ Jvm.RoadKit.slotOf Z "com/example/otayori/otayori/bench/PairTally" "outOfOrder" "J" := slot_ne (Or.inl (hw _ (List.mem_of_getElem? (i := 66) rfl))) (Or.inl (hw _ (List.mem_of_getElem? (i := 44) rfl))) (by decide) (t := .long) (t' := .long) (by decide) (by decide)
theorem sn_38 {a0 : Array Value} {Z : State} (hw : ∀ d ∈ tables_1, d.before a0 Z = true) : Jvm.RoadKit.slotOf Z "com/example/otayori/otayori/bench/PairTally" "seen" "[J" ≠ Jvm.RoadKit.slotOf Z "com/example/otayori/otayori/bench/PairTally" "outOfOrder" "J" := slot_ne (Or.inr (hw _ (List.mem_of_getElem? (i := 18) rfl))) (Or.inl (hw _ (List.mem_of_getElem? (i := 44) rfl))) (by decide) (t := (.array .long)) (t' := .long) (by decide) (by decide)
theorem sn_39 {a0 : Array Value} {Z : State} (hw : ∀ d ∈ tables_1, d.before a0 Z = true) : Jvm.RoadKit.slotOf Z "com/example/otayori/otayori/bench/PairTally" "latenciesMicros" "[I" ≠ Jvm.RoadKit.slotOf Z "com/example/otayori/otayori/bench/PairTally" "outOfOrder" "J" := slot_ne (Or.inl (hw _ (List.mem_of_getElem? (i := 13) rfl))) (Or.inl (hw _ (List.mem_of_getElem? (i := 44) rfl))) (by decide) (t := (.array .int)) (t' := .long) (by decide) (by decide)
theorem d3_71 : decode prog_3_method_2_code 71 = .ok (.goto 8, 3) := by decide +kernel
theorem d3_79 : decode prog_3_method_2_code 79 = .ok (.aload_n 0, 1) := by decide +kernel
theorem d3_80 : decode prog_3_method_2_code 80 = .ok (.getfield 30, 3) := by decide +kernel
theorem d3_83 : decode prog_3_method_2_code 83 = .ok (.aload_n 0, 1) := by decide +kernel
theorem d3_84 : decode prog_3_method_2_code 84 = .ok (.getfield 33, 3) := by decide +kernel
theorem d3_87 : decode prog_3_method_2_code 87 = .ok (.ladd, 1) := by decide +kernel
theorem d3_88 : decode prog_3_method_2_code 88 = .ok (.l2i, 1) := by decide +kernel
theorem d3_89 : decode prog_3_method_2_code 89 = .ok (.istore 11, 2) := by decide +kernel
theorem d3_91 : decode prog_3_method_2_code 91 = .ok (.iload 11, 2) := by decide +kernel
theorem d3_93 : decode prog_3_method_2_code 93 = .ok (.aload_n 0, 1) := by decide +kernel
theorem d3_94 : decode prog_3_method_2_code 94 = .ok (.getfield 13, 3) := by decide +kernel
theorem d3_97 : decode prog_3_method_2_code 97 = .ok (.arraylength, 1) := by decide +kernel
theorem d3_98 : decode prog_3_method_2_code 98 = .ok (.if_icmp .ne 21, 3) := by decide +kernel
theorem d3_119 : decode prog_3_method_2_code 119 = .ok (.aload_n 0, 1) := by decide +kernel
theorem d3_120 : decode prog_3_method_2_code 120 = .ok (.getfield 13, 3) := by decide +kernel
theorem d3_123 : decode prog_3_method_2_code 123 = .ok (.iload 11, 2) := by decide +kernel
theorem d3_125 : decode prog_3_method_2_code 125 = .ok (.ldc2_w 44, 3) := by decide +kernel
theorem d3_128 : decode prog_3_method_2_code 128 = .ok (.lconst 0, 1) := by decide +kernel
theorem d3_129 : decode prog_3_method_2_code 129 = .ok (.lload_n 2, 1) := by decide +kernel
theorem d3_130 : decode prog_3_method_2_code 130 = .ok (.ldc2_w 46, 3) := by decide +kernel
theorem d3_133 : decode prog_3_method_2_code 133 = .ok (.ldiv, 1) := by decide +kernel
theorem d3_134 : decode prog_3_method_2_code 134 = .ok (.invokestatic 48, 3) := by decide +kernel
theorem pd_2 : parseMethodDescriptor "(JJ)J" = some ⟨[.long, .long], some .long⟩ := by decide +kernel
theorem d3_137 : decode prog_3_method_2_code 137 = .ok (.invokestatic 54, 3) := by decide +kernel
theorem d3_140 : decode prog_3_method_2_code 140 = .ok (.l2i, 1) := by decide +kernel
theorem d3_141 : decode prog_3_method_2_code 141 = .ok (.iastore, 1) := by decide +kernel
theorem d3_142 : decode prog_3_method_2_code 142 = .ok (.iload 6, 2) := by decide +kernel
theorem d3_144 : decode prog_3_method_2_code 144 = .ok (.ifCond .eq 16, 3) := by decide +kernel
theorem d3_160 : decode prog_3_method_2_code 160 = .ok (.aload_n 0, 1) := by decide +kernel
theorem d3_161 : decode prog_3_method_2_code 161 = .ok (.lload 4, 2) := by decide +kernel
theorem d3_163 : decode prog_3_method_2_code 163 = .ok (.putfield 57, 3) := by decide +kernel
theorem sn_40 {a0 : Array Value} {Z : State} (hw : ∀ d ∈ tables_1, d.before a0 Z = true) : Jvm.RoadKit.slotOf Z "com/example/otayori/otayori/bench/PairTally" "highestSequence" "I" ≠ Jvm.RoadKit.slotOf Z "com/example/otayori/otayori/bench/PairTally" "lastDeliveryNanos" "J" := slot_ne (Or.inl (hw _ (List.mem_of_getElem? (i := 10) rfl))) (Or.inl (hw _ (List.mem_of_getElem? (i := 66) rfl))) (by decide) (t := .int) (t' := .long) (by decide) (by decide)
theorem sn_41 {a0 : Array Value} {Z : State} (hw : ∀ d ∈ tables_1, d.before a0 Z = true) : Jvm.RoadKit.slotOf Z "com/example/otayori/otayori/bench/PairTally" "messages" "I" ≠ Jvm.RoadKit.slotOf Z "com/example/otayori/otayori/bench/PairTally" "lastDeliveryNanos" "J" := slot_ne (Or.inr (hw _ (List.mem_of_getElem? (i := 15) rfl))) (Or.inl (hw _ (List.mem_of_getElem? (i := 66) rfl))) (by decide) (t := .int) (t' := .long) (by decide) (by decide)
theorem sn_42 {a0 : Array Value} {Z : State} (hw : ∀ d ∈ tables_1, d.before a0 Z = true) : Jvm.RoadKit.slotOf Z "com/example/otayori/otayori/bench/PairTally" "delivered" "J" ≠ Jvm.RoadKit.slotOf Z "com/example/otayori/otayori/bench/PairTally" "lastDeliveryNanos" "J" := slot_ne (Or.inl (hw _ (List.mem_of_getElem? (i := 25) rfl))) (Or.inl (hw _ (List.mem_of_getElem? (i := 66) rfl))) (by decide) (t := .long) (t' := .long) (by decide) (by decide)
theorem sn_43 {a0 : Array Value} {Z : State} (hw : ∀ d ∈ tables_1, d.before a0 Z = true) : Jvm.RoadKit.slotOf Z "com/example/otayori/otayori/bench/PairTally" "late" "J" ≠ Jvm.RoadKit.slotOf Z "com/example/otayori/otayori/bench/PairTally" "lastDeliveryNanos" "J" := slot_ne (Or.inl (hw _ (List.mem_of_getElem? (i := 27) rfl))) (Or.inl (hw _ (List.mem_of_getElem? (i := 66) rfl))) (by decide) (t := .long) (t' := .long) (by decide) (by decide)
theorem sn_44 {a0 : Array Value} {Z : State} (hw : ∀ d ∈ tables_1, d.before a0 Z = true) : Jvm.RoadKit.slotOf Z "com/example/otayori/otayori/bench/PairTally" "outOfOrder" "J" ≠ Jvm.RoadKit.slotOf Z "com/example/otayori/otayori/bench/PairTally" "lastDeliveryNanos" "J" := slot_ne (Or.inl (hw _ (List.mem_of_getElem? (i := 44) rfl))) (Or.inl (hw _ (List.mem_of_getElem? (i := 66) rfl))) (by decide) (t := .long) (t' := .long) (by decide) (by decide)
theorem sn_45 {a0 : Array Value} {Z : State} (hw : ∀ d ∈ tables_1, d.before a0 Z = true) : Jvm.RoadKit.slotOf Z "com/example/otayori/otayori/bench/PairTally" "duplicated" "J" ≠ Jvm.RoadKit.slotOf Z "com/example/otayori/otayori/bench/PairTally" "lastDeliveryNanos" "J" := slot_ne (Or.inl (hw _ (List.mem_of_getElem? (i := 47) rfl))) (Or.inl (hw _ (List.mem_of_getElem? (i := 66) rfl))) (by decide) (t := .long) (t' := .long) (by decide) (by decide)
theorem sn_46 {a0 : Array Value} {Z : State} (hw : ∀ d ∈ tables_1, d.before a0 Z = true) : Jvm.RoadKit.slotOf Z "com/example/otayori/otayori/bench/PairTally" "seen" "[J" ≠ Jvm.RoadKit.slotOf Z "com/example/otayori/otayori/bench/PairTally" "lastDeliveryNanos" "J" := slot_ne (Or.inr (hw _ (List.mem_of_getElem? (i := 18) rfl))) (Or.inl (hw _ (List.mem_of_getElem? (i := 66) rfl))) (by decide) (t := (.array .long)) (t' := .long) (by decide) (by decide)
theorem sn_47 {a0 : Array Value} {Z : State} (hw : ∀ d ∈ tables_1, d.before a0 Z = true) : Jvm.RoadKit.slotOf Z "com/example/otayori/otayori/bench/PairTally" "latenciesMicros" "[I" ≠ Jvm.RoadKit.slotOf Z "com/example/otayori/otayori/bench/PairTally" "lastDeliveryNanos" "J" := slot_ne (Or.inl (hw _ (List.mem_of_getElem? (i := 13) rfl))) (Or.inl (hw _ (List.mem_of_getElem? (i := 66) rfl))) (by decide) (t := (.array .int)) (t' := .long) (by decide) (by decide)
theorem d3_166 : decode prog_3_method_2_code 166 = .ok (.aload_n 0, 1) := by decide +kernel
theorem d3_167 : decode prog_3_method_2_code 167 = .ok (.aload_n 0, 1) := by decide +kernel
theorem d3_168 : decode prog_3_method_2_code 168 = .ok (.getfield 30, 3) := by decide +kernel
theorem d3_171 : decode prog_3_method_2_code 171 = .ok (.lconst 1, 1) := by decide +kernel
theorem d3_172 : decode prog_3_method_2_code 172 = .ok (.ladd, 1) := by decide +kernel
theorem d3_173 : decode prog_3_method_2_code 173 = .ok (.putfield 30, 3) := by decide +kernel
theorem sn_48 {a0 : Array Value} {Z : State} (hw : ∀ d ∈ tables_1, d.before a0 Z = true) : Jvm.RoadKit.slotOf Z "com/example/otayori/otayori/bench/PairTally" "highestSequence" "I" ≠ Jvm.RoadKit.slotOf Z "com/example/otayori/otayori/bench/PairTally" "delivered" "J" := slot_ne (Or.inl (hw _ (List.mem_of_getElem? (i := 10) rfl))) (Or.inl (hw _ (List.mem_of_getElem? (i := 25) rfl))) (by decide) (t := .int) (t' := .long) (by decide) (by decide)
theorem sn_49 {a0 : Array Value} {Z : State} (hw : ∀ d ∈ tables_1, d.before a0 Z = true) : Jvm.RoadKit.slotOf Z "com/example/otayori/otayori/bench/PairTally" "messages" "I" ≠ Jvm.RoadKit.slotOf Z "com/example/otayori/otayori/bench/PairTally" "delivered" "J" := slot_ne (Or.inr (hw _ (List.mem_of_getElem? (i := 15) rfl))) (Or.inl (hw _ (List.mem_of_getElem? (i := 25) rfl))) (by decide) (t := .int) (t' := .long) (by decide) (by decide)
theorem sn_50 {a0 : Array Value} {Z : State} (hw : ∀ d ∈ tables_1, d.before a0 Z = true) : Jvm.RoadKit.slotOf Z "com/example/otayori/otayori/bench/PairTally" "late" "J" ≠ Jvm.RoadKit.slotOf Z "com/example/otayori/otayori/bench/PairTally" "delivered" "J" := slot_ne (Or.inl (hw _ (List.mem_of_getElem? (i := 27) rfl))) (Or.inl (hw _ (List.mem_of_getElem? (i := 25) rfl))) (by decide) (t := .long) (t' := .long) (by decide) (by decide)
theorem sn_51 {a0 : Array Value} {Z : State} (hw : ∀ d ∈ tables_1, d.before a0 Z = true) : Jvm.RoadKit.slotOf Z "com/example/otayori/otayori/bench/PairTally" "outOfOrder" "J" ≠ Jvm.RoadKit.slotOf Z "com/example/otayori/otayori/bench/PairTally" "delivered" "J" := slot_ne (Or.inl (hw _ (List.mem_of_getElem? (i := 44) rfl))) (Or.inl (hw _ (List.mem_of_getElem? (i := 25) rfl))) (by decide) (t := .long) (t' := .long) (by decide) (by decide)
theorem sn_52 {a0 : Array Value} {Z : State} (hw : ∀ d ∈ tables_1, d.before a0 Z = true) : Jvm.RoadKit.slotOf Z "com/example/otayori/otayori/bench/PairTally" "duplicated" "J" ≠ Jvm.RoadKit.slotOf Z "com/example/otayori/otayori/bench/PairTally" "delivered" "J" := slot_ne (Or.inl (hw _ (List.mem_of_getElem? (i := 47) rfl))) (Or.inl (hw _ (List.mem_of_getElem? (i := 25) rfl))) (by decide) (t := .long) (t' := .long) (by decide) (by decide)
theorem sn_53 {a0 : Array Value} {Z : State} (hw : ∀ d ∈ tables_1, d.before a0 Z = true) : Jvm.RoadKit.slotOf Z "com/example/otayori/otayori/bench/PairTally" "lastDeliveryNanos" "J" ≠ Jvm.RoadKit.slotOf Z "com/example/otayori/otayori/bench/PairTally" "delivered" "J" := slot_ne (Or.inl (hw _ (List.mem_of_getElem? (i := 66) rfl))) (Or.inl (hw _ (List.mem_of_getElem? (i := 25) rfl))) (by decide) (t := .long) (t' := .long) (by decide) (by decide)
theorem sn_54 {a0 : Array Value} {Z : State} (hw : ∀ d ∈ tables_1, d.before a0 Z = true) : Jvm.RoadKit.slotOf Z "com/example/otayori/otayori/bench/PairTally" "seen" "[J" ≠ Jvm.RoadKit.slotOf Z "com/example/otayori/otayori/bench/PairTally" "delivered" "J" := slot_ne (Or.inr (hw _ (List.mem_of_getElem? (i := 18) rfl))) (Or.inl (hw _ (List.mem_of_getElem? (i := 25) rfl))) (by decide) (t := (.array .long)) (t' := .long) (by decide) (by decide)
theorem sn_55 {a0 : Array Value} {Z : State} (hw : ∀ d ∈ tables_1, d.before a0 Z = true) : Jvm.RoadKit.slotOf Z "com/example/otayori/otayori/bench/PairTally" "latenciesMicros" "[I" ≠ Jvm.RoadKit.slotOf Z "com/example/otayori/otayori/bench/PairTally" "delivered" "J" := slot_ne (Or.inl (hw _ (List.mem_of_getElem? (i := 13) rfl))) (Or.inl (hw _ (List.mem_of_getElem? (i := 25) rfl))) (by decide) (t := (.array .int)) (t' := .long) (by decide) (by decide)
theorem d3_176 : decode prog_3_method_2_code 176 = .ok (.goto 13, 3) := by decide +kernel
theorem d3_189 : decode prog_3_method_2_code 189 = .ok (.iload 10, 2) := by decide +kernel
theorem d3_191 : decode prog_3_method_2_code 191 = .ok (.ireturn, 1) := by decide +kernel
theorem d3_147 : decode prog_3_method_2_code 147 = .ok (.aload_n 0, 1) := by decide +kernel
theorem d3_148 : decode prog_3_method_2_code 148 = .ok (.aload_n 0, 1) := by decide +kernel
theorem d3_149 : decode prog_3_method_2_code 149 = .ok (.getfield 33, 3) := by decide +kernel
theorem d3_152 : decode prog_3_method_2_code 152 = .ok (.lconst 1, 1) := by decide +kernel
theorem d3_153 : decode prog_3_method_2_code 153 = .ok (.ladd, 1) := by decide +kernel
theorem d3_154 : decode prog_3_method_2_code 154 = .ok (.putfield 33, 3) := by decide +kernel
theorem sn_56 {a0 : Array Value} {Z : State} (hw : ∀ d ∈ tables_1, d.before a0 Z = true) : Jvm.RoadKit.slotOf Z "com/example/otayori/otayori/bench/PairTally" "highestSequence" "I" ≠ Jvm.RoadKit.slotOf Z "com/example/otayori/otayori/bench/PairTally" "late" "J" := slot_ne (Or.inl (hw _ (List.mem_of_getElem? (i := 10) rfl))) (Or.inl (hw _ (List.mem_of_getElem? (i := 27) rfl))) (by decide) (t := .int) (t' := .long) (by decide) (by decide)
theorem sn_57 {a0 : Array Value} {Z : State} (hw : ∀ d ∈ tables_1, d.before a0 Z = true) : Jvm.RoadKit.slotOf Z "com/example/otayori/otayori/bench/PairTally" "messages" "I" ≠ Jvm.RoadKit.slotOf Z "com/example/otayori/otayori/bench/PairTally" "late" "J" := slot_ne (Or.inr (hw _ (List.mem_of_getElem? (i := 15) rfl))) (Or.inl (hw _ (List.mem_of_getElem? (i := 27) rfl))) (by decide) (t := .int) (t' := .long) (by decide) (by decide)
theorem sn_58 {a0 : Array Value} {Z : State} (hw : ∀ d ∈ tables_1, d.before a0 Z = true) : Jvm.RoadKit.slotOf Z "com/example/otayori/otayori/bench/PairTally" "delivered" "J" ≠ Jvm.RoadKit.slotOf Z "com/example/otayori/otayori/bench/PairTally" "late" "J" := slot_ne (Or.inl (hw _ (List.mem_of_getElem? (i := 25) rfl))) (Or.inl (hw _ (List.mem_of_getElem? (i := 27) rfl))) (by decide) (t := .long) (t' := .long) (by decide) (by decide)
theorem sn_59 {a0 : Array Value} {Z : State} (hw : ∀ d ∈ tables_1, d.before a0 Z = true) : Jvm.RoadKit.slotOf Z "com/example/otayori/otayori/bench/PairTally" "outOfOrder" "J" ≠ Jvm.RoadKit.slotOf Z "com/example/otayori/otayori/bench/PairTally" "late" "J" := slot_ne (Or.inl (hw _ (List.mem_of_getElem? (i := 44) rfl))) (Or.inl (hw _ (List.mem_of_getElem? (i := 27) rfl))) (by decide) (t := .long) (t' := .long) (by decide) (by decide)
theorem sn_60 {a0 : Array Value} {Z : State} (hw : ∀ d ∈ tables_1, d.before a0 Z = true) : Jvm.RoadKit.slotOf Z "com/example/otayori/otayori/bench/PairTally" "duplicated" "J" ≠ Jvm.RoadKit.slotOf Z "com/example/otayori/otayori/bench/PairTally" "late" "J" := slot_ne (Or.inl (hw _ (List.mem_of_getElem? (i := 47) rfl))) (Or.inl (hw _ (List.mem_of_getElem? (i := 27) rfl))) (by decide) (t := .long) (t' := .long) (by decide) (by decide)
theorem sn_61 {a0 : Array Value} {Z : State} (hw : ∀ d ∈ tables_1, d.before a0 Z = true) : Jvm.RoadKit.slotOf Z "com/example/otayori/otayori/bench/PairTally" "lastDeliveryNanos" "J" ≠ Jvm.RoadKit.slotOf Z "com/example/otayori/otayori/bench/PairTally" "late" "J" := slot_ne (Or.inl (hw _ (List.mem_of_getElem? (i := 66) rfl))) (Or.inl (hw _ (List.mem_of_getElem? (i := 27) rfl))) (by decide) (t := .long) (t' := .long) (by decide) (by decide)
theorem sn_62 {a0 : Array Value} {Z : State} (hw : ∀ d ∈ tables_1, d.before a0 Z = true) : Jvm.RoadKit.slotOf Z "com/example/otayori/otayori/bench/PairTally" "seen" "[J" ≠ Jvm.RoadKit.slotOf Z "com/example/otayori/otayori/bench/PairTally" "late" "J" := slot_ne (Or.inr (hw _ (List.mem_of_getElem? (i := 18) rfl))) (Or.inl (hw _ (List.mem_of_getElem? (i := 27) rfl))) (by decide) (t := (.array .long)) (t' := .long) (by decide) (by decide)
theorem sn_63 {a0 : Array Value} {Z : State} (hw : ∀ d ∈ tables_1, d.before a0 Z = true) : Jvm.RoadKit.slotOf Z "com/example/otayori/otayori/bench/PairTally" "latenciesMicros" "[I" ≠ Jvm.RoadKit.slotOf Z "com/example/otayori/otayori/bench/PairTally" "late" "J" := slot_ne (Or.inl (hw _ (List.mem_of_getElem? (i := 13) rfl))) (Or.inl (hw _ (List.mem_of_getElem? (i := 27) rfl))) (by decide) (t := (.array .int)) (t' := .long) (by decide) (by decide)
theorem d3_157 : decode prog_3_method_2_code 157 = .ok (.goto 19, 3) := by decide +kernel
theorem d3_74 : decode prog_3_method_2_code 74 = .ok (.aload_n 0, 1) := by decide +kernel
theorem d3_75 : decode prog_3_method_2_code 75 = .ok (.iload_n 1, 1) := by decide +kernel
theorem d3_76 : decode prog_3_method_2_code 76 = .ok (.putfield 7, 3) := by decide +kernel
def Q3f0 (Z : State) (a1 : Addr) (p1 : Int32) (q1 : Int64) (q2 : Int64) (p3 : Int32) (u_highestSequence : Int32) (u_messages : Int32) (u_delivered : Int64) (u_late : Int64) (u_outOfOrder : Int64) (u_duplicated : Int64) (u_lastDeliveryNanos : Int64) (ts : Addr) (ks : ClassId) (tl : Addr) (kl : ClassId) (wv : Int64) (v0 : Value) (v1 : Value) (v2 : Value) (v3 : Value) (v4 : Value) (v5 : Value) (v6 : Value) (v7 : Value) (v8 : Value) (v9 : Value) (v10 : Value) (v11 : Value) (v12 : Value) (v13 : Value) (v14 : Value) (v15 : Value) (h0 : Heap) (n0 : Nat) (v : Option Value) (h : Heap) (L : List Loc) : Prop := ∃ d1 : Int64, ∃ l1 : Int64, ∃ s1 : Int32, ∃ o1 : Int64, ∃ n1 : Int64, v = some (.int (1 : Int32)) ∧ Fr n0 L ∧ Keep h0 h [a1, ts, tl] ∧ Fld Z h a1 "com/example/otayori/otayori/bench/PairTally" "highestSequence" "I" (.int s1) ∧ Fld Z h a1 "com/example/otayori/otayori/bench/PairTally" "messages" "I" (.int u_messages) ∧ Fld Z h a1 "com/example/otayori/otayori/bench/PairTally" "delivered" "J" (.long d1) ∧ Fld Z h a1 "com/example/otayori/otayori/bench/PairTally" "late" "J" (.long l1) ∧ Fld Z h a1 "com/example/otayori/otayori/bench/PairTally" "outOfOrder" "J" (.long o1) ∧ Fld Z h a1 "com/example/otayori/otayori/bench/PairTally" "duplicated" "J" (.long u_duplicated) ∧ Fld Z h a1 "com/example/otayori/otayori/bench/PairTally" "lastDeliveryNanos" "J" (.long n1) ∧ Fld Z h a1 "com/example/otayori/otayori/bench/PairTally" "seen" "[J" (.ref ts) ∧ Fld Z h a1 "com/example/otayori/otayori/bench/PairTally" "latenciesMicros" "[I" (.ref tl) ∧ (Arv Z h ts ks .long (1 : Int32) [(.long (wv ||| (own_bit p1)))] (.long (0 : Int64))) ∧ (Arv Z h tl kl .int (16 : Int32) [(.int (own_lat q1)), v1, v2, v3, v4, v5, v6, v7, v8, v9, v10, v11, v12, v13, v14, v15] (.int (0 : Int32))) ∧ (d1 + l1 = (1 : Int64))
set_option maxRecDepth 65536 in
set_option maxHeartbeats 40000000 in
theorem rm3f0 (l : Launch) (Z : State) (a0 : Array Value) (hw : ∀ d ∈ tables_1, d.before a0 Z = true) (ws : List Jvm.Cond) (a1 : Addr) (p1 : Int32) (q1 : Int64) (q2 : Int64) (p3 : Int32) (u_highestSequence : Int32) (u_messages : Int32) (u_delivered : Int64) (u_late : Int64) (u_outOfOrder : Int64) (u_duplicated : Int64) (u_lastDeliveryNanos : Int64) (ts : Addr) (ks : ClassId) (tl : Addr) (kl : ClassId) (wv : Int64) (v0 : Value) (v1 : Value) (v2 : Value) (v3 : Value) (v4 : Value) (v5 : Value) (v6 : Value) (v7 : Value) (v8 : Value) (v9 : Value) (v10 : Value) (v11 : Value) (v12 : Value) (v13 : Value) (v14 : Value) (v15 : Value) (h0 : Heap) (n0 : Nat) (Z0 : n0 ≤ h0.size) (E_a1 : Exa Z h0 a1 "com/example/otayori/otayori/bench/PairTally") (g_a1 : n0 ≤ a1) (F_a1_highestSequence : Fld Z h0 a1 "com/example/otayori/otayori/bench/PairTally" "highestSequence" "I" (.int u_highestSequence)) (F_a1_messages : Fld Z h0 a1 "com/example/otayori/otayori/bench/PairTally" "messages" "I" (.int u_messages)) (F_a1_delivered : Fld Z h0 a1 "com/example/otayori/otayori/bench/PairTally" "delivered" "J" (.long u_delivered)) (F_a1_late : Fld Z h0 a1 "com/example/otayori/otayori/bench/PairTally" "late" "J" (.long u_late)) (F_a1_outOfOrder : Fld Z h0 a1 "com/example/otayori/otayori/bench/PairTally" "outOfOrder" "J" (.long u_outOfOrder)) (F_a1_duplicated : Fld Z h0 a1 "com/example/otayori/otayori/bench/PairTally" "duplicated" "J" (.long u_duplicated)) (F_a1_lastDeliveryNanos : Fld Z h0 a1 "com/example/otayori/otayori/bench/PairTally" "lastDeliveryNanos" "J" (.long u_lastDeliveryNanos)) (F_a1_seen : Fld Z h0 a1 "com/example/otayori/otayori/bench/PairTally" "seen" "[J" (.ref ts)) (F_a1_latenciesMicros : Fld Z h0 a1 "com/example/otayori/otayori/bench/PairTally" "latenciesMicros" "[I" (.ref tl)) (V_ts : Arv Z h0 ts ks .long (1 : Int32) [(.long wv)] (.long (0 : Int64))) (V_tl : Arv Z h0 tl kl .int (16 : Int32) [v0, v1, v2, v3, v4, v5, v6, v7, v8, v9, v10, v11, v12, v13, v14, v15] (.int (0 : Int32))) (g_ts : n0 ≤ ts) (g_tl : n0 ≤ tl) (ne_a1_ts : a1 ≠ ts) (ne_a1_tl : a1 ≠ tl) (ne_tl_ts : tl ≠ ts) (h8 : own_small p1) (hfirst : (lcmpW (wv &&& (own_bit p1)) (0 : Int64)) = (0 : Int32)) (hde : u_delivered + u_late = (0 : Int64)) :
    MetFree l (⟨"com/example/otayori/otayori/bench/PairTally", "record", "(IJJZ)Z"⟩ : MethodName) (head1 (Jvm.Cond.code (⟨"com/example/otayori/otayori/bench/PairTally", "record", "(IJJZ)Z"⟩ : MethodName) prog_3_method_2_code 12 (some .boolean) :: ws) ({ frames := 1, cells := 0, slots := 0, locals := 19 } : Room)) (fun a U => a = #[(.ref a1), (.int p1), (.long q1), (.long q2), (.int p3)] ∧ Z.Warmed39 U.vm ∧ U.heap = h0) (fun _ _ _ _ _ => True) (fun _ U o U' => ∃ v L, o = .returned v ∧ Q3f0 Z a1 p1 q1 q2 p3 u_highestSequence u_messages u_delivered u_late u_outOfOrder u_duplicated u_lastDeliveryNanos ts ks tl kl wv v0 v1 v2 v3 v4 v5 v6 v7 v8 v9 v10 v11 v12 v13 v14 v15 h0 n0 v U'.heap L ∧ FrameEnd U o U' L ({ frames := 1, cells := 0, slots := 0, locals := 19 } : Room).cells ({ frames := 1, cells := 0, slots := 0, locals := 19 } : Room).slots) := by
  refine MetFree.of_bodySF (plainFor_of_name pn_0) hisR ?_
  intro p e s m args below meth c s₁ Bd hml0 hP hK
  obtain ⟨rfl, hZ, hh⟩ := hP
  have hx := Bd.exec
  have hby := Bd.bytes
  have hml : c.maxLocals = 12 := hml0
  have hown : s.vm.findClass "com/example/otayori/otayori/bench/PairTally" = some m.cls := findClass_of_methodNamed Bd.named
  have hnm := (name_of_methodNamed Bd.named Bd.method).1
  have X0 : Stand p l e ({ frames := 1, cells := 0, slots := 0, locals := 19 } : Room) s m #[(.ref a1), (.int p1), (.long q1), (.long q2), (.int p3)] below meth c s₁ [] 0 0 := Stand.of_body Bd
  have e0 : s₁.heap = h0 := by rw [← hh, Bd.state]; rfl
  have NF := Fr.nil n0
  have KP : Keep h0 h0 [a1, ts, tl] := Keep.refl h0 _
  refine WP.go ?_
  refine WP.cast (ef_3f0 m a1 p1 q1 q2 p3) ?_
  refine WP.name ?_
  intro G hG
  have bk106 : ∀ t, Steps p.tables e below (s₁.setTop (mkF m 6 #[.val (.ref a1), .val (.int p1), .val (.long q1), .second, .val (.long q2), .second, .val (.int p3), .unset, .unset, .unset, .unset, .unset] [(.long ((1 : Int64) <<< ((p1 % (64 : Int32)) &&& 0x3f).toInt64))])) t → Steps p.tables e below (s₁.setTop (mkF m 0 #[.val (.ref a1), .val (.int p1), .val (.long q1), .second, .val (.long q2), .second, .val (.int p3), .unset, .unset, .unset, .unset, .unset] [])) t := fun t k => by
    refine XS.lconst X0.here hx rfl (hb hby d3_0) ?_
    refine XS.iloadN X0.here hx rfl (hb hby d3_1) rfl ?_
    refine XS.bipush X0.here hx rfl (hb hby d3_2) ?_
    refine iremM X0 hx rfl (hb hby d3_4) rfl (by decide) ?_
    show Steps p.tables e below (s₁.setTop (mkF m 5 #[.val (.ref a1), .val (.int p1), .val (.long q1), .second, .val (.long q2), .second, .val (.int p3), .unset, .unset, .unset, .unset, .unset] [(.int (p1 % (64 : Int32))), (.long (1 : Int64))])) t
    refine XS.lshl X0.here hx rfl (hb hby d3_5) rfl ?_
    exact k
  refine WP.st bk106 ?_
  clear bk106
  rw [show ((1 : Int64) <<< ((p1 % (64 : Int32)) &&& 0x3f).toInt64) = (own_bit p1) from rfl]
  show WP p.tables e below _ s₁ (mkF m 6 #[.val (.ref a1), .val (.int p1), .val (.long q1), .second, .val (.long q2), .second, .val (.int p3), .unset, .unset, .unset, .unset, .unset] [(.long (own_bit p1))])
  have bk107 : ∀ t, Steps p.tables e below (s₁.setTop (mkF m 12 #[.val (.ref a1), .val (.int p1), .val (.long q1), .second, .val (.long q2), .second, .val (.int p3), .val (.long (own_bit p1)), .second, .unset, .unset, .unset] [(.int (p1 / (64 : Int32)))])) t → Steps p.tables e below (s₁.setTop (mkF m 6 #[.val (.ref a1), .val (.int p1), .val (.long q1), .second, .val (.long q2), .second, .val (.int p3), .unset, .unset, .unset, .unset, .unset] [(.long (own_bit p1))])) t := fun t k => by
    refine XS.lstore X0.here hx rfl (hb hby d3_6) rfl (l' := #[.val (.ref a1), .val (.int p1), .val (.long q1), .second, .val (.long q2), .second, .val (.int p3), .val (.long (own_bit p1)), .second, .unset, .unset, .unset]) rfl ?_
    refine XS.iloadN X0.here hx rfl (hb hby d3_8) rfl ?_
    refine XS.bipush X0.here hx rfl (hb hby d3_9) ?_
    refine XS.idiv X0.here hx rfl (hb hby d3_11) rfl (by decide) ?_
    exact k
  refine WP.st bk107 ?_
  clear bk107
  rw [show (p1 / (64 : Int32)) = (0 : Int32) from own_div h8]
  show WP p.tables e below _ s₁ (mkF m 12 #[.val (.ref a1), .val (.int p1), .val (.long q1), .second, .val (.long q2), .second, .val (.int p3), .val (.long (own_bit p1)), .second, .unset, .unset, .unset] [(.int (0 : Int32))])
  have bk108 : ∀ t, Steps p.tables e below (s₁.setTop (mkF m 15 #[.val (.ref a1), .val (.int p1), .val (.long q1), .second, .val (.long q2), .second, .val (.int p3), .val (.long (own_bit p1)), .second, .val (.int (0 : Int32)), .unset, .unset] [(.ref a1)])) t → Steps p.tables e below (s₁.setTop (mkF m 12 #[.val (.ref a1), .val (.int p1), .val (.long q1), .second, .val (.long q2), .second, .val (.int p3), .val (.long (own_bit p1)), .second, .unset, .unset, .unset] [(.int (0 : Int32))])) t := fun t k => by
    refine XS.istore X0.here hx rfl (hb hby d3_12) rfl (l' := #[.val (.ref a1), .val (.int p1), .val (.long q1), .second, .val (.long q2), .second, .val (.int p3), .val (.long (own_bit p1)), .second, .val (.int (0 : Int32)), .unset, .unset]) rfl ?_
    refine XS.aloadN X0.here hx rfl (hb hby d3_14) rfl rfl ?_
    exact k
  refine WP.st bk108 ?_
  clear bk108
  obtain ⟨T109, X109, e109, st109⟩ := getF X0 hx hZ hown (host := "") (Or.inl (hw _ (List.mem_of_getElem? (i := 17) rfl))) Via.refl e0 F_a1_seen (g := (mkF m 15 #[.val (.ref a1), .val (.int p1), .val (.long q1), .second, .val (.long q2), .second, .val (.int p3), .val (.long (own_bit p1)), .second, .val (.int (0 : Int32)), .unset, .unset] [(.ref a1)])) rfl rfl (hb hby d3_15)
  refine WP.st st109 ?_
  clear st109
  show WP p.tables e below _ T109 (mkF m 18 #[.val (.ref a1), .val (.int p1), .val (.long q1), .second, .val (.long q2), .second, .val (.int p3), .val (.long (own_bit p1)), .second, .val (.int (0 : Int32)), .unset, .unset] [(.ref ts)])
  have bk110 : ∀ t, Steps p.tables e below (T109.setTop (mkF m 20 #[.val (.ref a1), .val (.int p1), .val (.long q1), .second, .val (.long q2), .second, .val (.int p3), .val (.long (own_bit p1)), .second, .val (.int (0 : Int32)), .unset, .unset] [(.int (0 : Int32)), (.ref ts)])) t → Steps p.tables e below (T109.setTop (mkF m 18 #[.val (.ref a1), .val (.int p1), .val (.long q1), .second, .val (.long q2), .second, .val (.int p3), .val (.long (own_bit p1)), .second, .val (.int (0 : Int32)), .unset, .unset] [(.ref ts)])) t := fun t k => by
    refine XS.iload X109.here hx rfl (hb hby d3_18) rfl ?_
    exact k
  refine WP.st bk110 ?_
  clear bk110
  obtain ⟨cl111, Ar111, hin111, hat111, -⟩ := V_ts.rd (j := (0 : Int32)) ⟨by decide, by decide⟩
  replace hat111 : cl111.slots[((0 : Int32)).toNatClampNeg]? = some (.long wv) := hat111
  have bk112 : ∀ t, Steps p.tables e below (T109.setTop (mkF m 42 #[.val (.ref a1), .val (.int p1), .val (.long q1), .second, .val (.long q2), .second, .val (.int p3), .val (.long (own_bit p1)), .second, .val (.int (0 : Int32)), .val (.int (1 : Int32)), .unset] [(.ref a1)])) t → Steps p.tables e below (T109.setTop (mkF m 20 #[.val (.ref a1), .val (.int p1), .val (.long q1), .second, .val (.long q2), .second, .val (.int p3), .val (.long (own_bit p1)), .second, .val (.int (0 : Int32)), .unset, .unset] [(.int (0 : Int32)), (.ref ts)])) t := fun t k => by
    refine X109.laload hx (j := (0 : Int32)) (v := (.long wv)) (by rw [e109]; exact Ar111.1) (State.isArrayOf_alike hZ.alike Ar111.2.1) Ar111.2.2 hin111 hat111 (g := (mkF m 20 #[.val (.ref a1), .val (.int p1), .val (.long q1), .second, .val (.long q2), .second, .val (.int p3), .val (.long (own_bit p1)), .second, .val (.int (0 : Int32)), .unset, .unset] [(.int (0 : Int32)), (.ref ts)])) rfl rfl (hb hby d3_20) _ ?_
    refine XS.lload X109.here hx rfl (hb hby d3_21) rfl ?_
    refine XS.land X109.here hx rfl (hb hby d3_23) rfl ?_
    refine XS.lconst X109.here hx rfl (hb hby d3_24) ?_
    show Steps p.tables e below (T109.setTop (mkF m 25 #[.val (.ref a1), .val (.int p1), .val (.long q1), .second, .val (.long q2), .second, .val (.int p3), .val (.long (own_bit p1)), .second, .val (.int (0 : Int32)), .unset, .unset] [(.long (0 : Int64)), (.long (wv &&& (own_bit p1)))])) t
    refine XS.lcmp X109.here hx rfl (hb hby d3_25) rfl ?_
    refine XS.ifNo X109.here hx rfl (hb hby d3_26) rfl ((if0 _ _).trans (teq hfirst).2) ?_
    refine XS.iconst X109.here hx rfl (hb hby d3_29) ?_
    refine XS.goto X109.here hx rfl (pc0 := 30) (pc' := 34) rfl (hb hby d3_30) (by decide) (by decide) ?_
    show Steps p.tables e below (T109.setTop (mkF m 34 #[.val (.ref a1), .val (.int p1), .val (.long q1), .second, .val (.long q2), .second, .val (.int p3), .val (.long (own_bit p1)), .second, .val (.int (0 : Int32)), .unset, .unset] [(.int (1 : Int32))])) t
    refine XS.istore X109.here hx rfl (hb hby d3_34) rfl (l' := #[.val (.ref a1), .val (.int p1), .val (.long q1), .second, .val (.long q2), .second, .val (.int p3), .val (.long (own_bit p1)), .second, .val (.int (0 : Int32)), .val (.int (1 : Int32)), .unset]) rfl ?_
    refine XS.iload X109.here hx rfl (hb hby d3_36) rfl ?_
    refine XS.ifNo X109.here hx rfl (hb hby d3_38) rfl ((if0 _ _).trans (feq (by decide : ¬ ((1 : Int32) = (0 : Int32)))).1) ?_
    refine XS.aloadN X109.here hx rfl (hb hby d3_41) rfl rfl ?_
    exact k
  refine WP.st bk112 ?_
  clear bk112
  obtain ⟨T113, X113, e113, st113⟩ := getF X109 hx hZ hown (host := "") (Or.inl (hw _ (List.mem_of_getElem? (i := 17) rfl))) Via.refl e109 F_a1_seen (g := (mkF m 42 #[.val (.ref a1), .val (.int p1), .val (.long q1), .second, .val (.long q2), .second, .val (.int p3), .val (.long (own_bit p1)), .second, .val (.int (0 : Int32)), .val (.int (1 : Int32)), .unset] [(.ref a1)])) rfl rfl (hb hby d3_42)
  refine WP.st st113 ?_
  clear st113
  show WP p.tables e below _ T113 (mkF m 45 #[.val (.ref a1), .val (.int p1), .val (.long q1), .second, .val (.long q2), .second, .val (.int p3), .val (.long (own_bit p1)), .second, .val (.int (0 : Int32)), .val (.int (1 : Int32)), .unset] [(.ref ts)])
  have bk114 : ∀ t, Steps p.tables e below (T113.setTop (mkF m 48 #[.val (.ref a1), .val (.int p1), .val (.long q1), .second, .val (.long q2), .second, .val (.int p3), .val (.long (own_bit p1)), .second, .val (.int (0 : Int32)), .val (.int (1 : Int32)), .unset] [(.int (0 : Int32)), (.ref ts), (.int (0 : Int32)), (.ref ts)])) t → Steps p.tables e below (T113.setTop (mkF m 45 #[.val (.ref a1), .val (.int p1), .val (.long q1), .second, .val (.long q2), .second, .val (.int p3), .val (.long (own_bit p1)), .second, .val (.int (0 : Int32)), .val (.int (1 : Int32)), .unset] [(.ref ts)])) t := fun t k => by
    refine XS.iload X113.here hx rfl (hb hby d3_45) rfl ?_
    refine Jvm.Free.XT.dup2 X113.here hx rfl (hb hby d3_47) rfl rfl rfl ?_
    exact k
  refine WP.st bk114 ?_
  clear bk114
  obtain ⟨cl115, Ar115, hin115, hat115, -⟩ := V_ts.rd (j := (0 : Int32)) ⟨by decide, by decide⟩
  replace hat115 : cl115.slots[((0 : Int32)).toNatClampNeg]? = some (.long wv) := hat115
  have bk116 : ∀ t, Steps p.tables e below (T113.setTop (mkF m 52 #[.val (.ref a1), .val (.int p1), .val (.long q1), .second, .val (.long q2), .second, .val (.int p3), .val (.long (own_bit p1)), .second, .val (.int (0 : Int32)), .val (.int (1 : Int32)), .unset] [(.long (wv ||| (own_bit p1))), (.int (0 : Int32)), (.ref ts)])) t → Steps p.tables e below (T113.setTop (mkF m 48 #[.val (.ref a1), .val (.int p1), .val (.long q1), .second, .val (.long q2), .second, .val (.int p3), .val (.long (own_bit p1)), .second, .val (.int (0 : Int32)), .val (.int (1 : Int32)), .unset] [(.int (0 : Int32)), (.ref ts), (.int (0 : Int32)), (.ref ts)])) t := fun t k => by
    refine X113.laload hx (j := (0 : Int32)) (v := (.long wv)) (by rw [e113]; exact Ar115.1) (State.isArrayOf_alike hZ.alike Ar115.2.1) Ar115.2.2 hin115 hat115 (g := (mkF m 48 #[.val (.ref a1), .val (.int p1), .val (.long q1), .second, .val (.long q2), .second, .val (.int p3), .val (.long (own_bit p1)), .second, .val (.int (0 : Int32)), .val (.int (1 : Int32)), .unset] [(.int (0 : Int32)), (.ref ts), (.int (0 : Int32)), (.ref ts)])) rfl rfl (hb hby d3_48) _ ?_
    refine XS.lload X113.here hx rfl (hb hby d3_49) rfl ?_
    refine XS.lor X113.here hx rfl (hb hby d3_51) rfl ?_
    exact k
  refine WP.st bk116 ?_
  clear bk116
  obtain ⟨cl117, Ar117, q117, S117, N117, H117, G117⟩ := V_ts
  have hin117 : ¬ ((0 : Int32) < 0 ∨ cl117.slots.size ≤ ((0 : Int32)).toNatClampNeg) := inb_of S117 ⟨by decide, by decide⟩
  obtain ⟨T118, h118, X118, e118, W118, st118⟩ := stJ X113 hx hZ e113 Ar117 (j := (0 : Int32)) hin117 (g := (mkF m 52 #[.val (.ref a1), .val (.int p1), .val (.long q1), .second, .val (.long q2), .second, .val (.int p3), .val (.long (own_bit p1)), .second, .val (.int (0 : Int32)), .val (.int (1 : Int32)), .unset] [(.long (wv ||| (own_bit p1))), (.int (0 : Int32)), (.ref ts)])) rfl rfl (hb hby d3_52)
  refine WP.st st118 ?_
  clear st118
  have Vn : Arv Z h118 ts ks .long (1 : Int32) [(.long (wv ||| (own_bit p1)))] (.long (0 : Int64)) := Arv.set Ar117 q117 S117 N117 H117 G117 rfl W118 0 rfl (Nat.le_of_ble_eq_true rfl)
  replace E_a1 := E_a1.wr W118
  replace F_a1_highestSequence := F_a1_highestSequence.other W118 (Or.inl ne_a1_ts)
  replace F_a1_messages := F_a1_messages.other W118 (Or.inl ne_a1_ts)
  replace F_a1_delivered := F_a1_delivered.other W118 (Or.inl ne_a1_ts)
  replace F_a1_late := F_a1_late.other W118 (Or.inl ne_a1_ts)
  replace F_a1_outOfOrder := F_a1_outOfOrder.other W118 (Or.inl ne_a1_ts)
  replace F_a1_duplicated := F_a1_duplicated.other W118 (Or.inl ne_a1_ts)
  replace F_a1_lastDeliveryNanos := F_a1_lastDeliveryNanos.other W118 (Or.inl ne_a1_ts)
  replace F_a1_seen := F_a1_seen.other W118 (Or.inl ne_a1_ts)
  replace F_a1_latenciesMicros := F_a1_latenciesMicros.other W118 (Or.inl ne_a1_ts)
  replace V_tl := V_tl.other W118 ne_tl_ts
  replace Z0 := Nat.le_trans Z0 (Keep.of_wr W118).1
  replace KP := KP.wr W118 (Or.inl (List.mem_of_getElem? (i := 1) rfl))
  replace V_ts := Vn
  replace NF := Fr.snoc X118 NF g_ts
  clear W118 hin117 q117 S117 N117 H117 G117 Ar117
  show WP p.tables e below _ T118 (mkF m 53 #[.val (.ref a1), .val (.int p1), .val (.long q1), .second, .val (.long q2), .second, .val (.int p3), .val (.long (own_bit p1)), .second, .val (.int (0 : Int32)), .val (.int (1 : Int32)), .unset] [])
  have bk119 : ∀ t, Steps p.tables e below (T118.setTop (mkF m 55 #[.val (.ref a1), .val (.int p1), .val (.long q1), .second, .val (.long q2), .second, .val (.int p3), .val (.long (own_bit p1)), .second, .val (.int (0 : Int32)), .val (.int (1 : Int32)), .unset] [(.ref a1), (.int p1)])) t → Steps p.tables e below (T118.setTop (mkF m 53 #[.val (.ref a1), .val (.int p1), .val (.long q1), .second, .val (.long q2), .second, .val (.int p3), .val (.long (own_bit p1)), .second, .val (.int (0 : Int32)), .val (.int (1 : Int32)), .unset] [])) t := fun t k => by
    refine XS.iloadN X118.here hx rfl (hb hby d3_53) rfl ?_
    refine XS.aloadN X118.here hx rfl (hb hby d3_54) rfl rfl ?_
    exact k
  refine WP.st bk119 ?_
  clear bk119
  obtain ⟨T120, X120, e120, st120⟩ := getF X118 hx hZ hown (host := "") (Or.inl (hw _ (List.mem_of_getElem? (i := 9) rfl))) Via.refl e118 F_a1_highestSequence (g := (mkF m 55 #[.val (.ref a1), .val (.int p1), .val (.long q1), .second, .val (.long q2), .second, .val (.int p3), .val (.long (own_bit p1)), .second, .val (.int (0 : Int32)), .val (.int (1 : Int32)), .unset] [(.ref a1), (.int p1)])) rfl rfl (hb hby d3_55)
  refine WP.st st120 ?_
  clear st120
  show WP p.tables e below _ T120 (mkF m 58 #[.val (.ref a1), .val (.int p1), .val (.long q1), .second, .val (.long q2), .second, .val (.int p3), .val (.long (own_bit p1)), .second, .val (.int (0 : Int32)), .val (.int (1 : Int32)), .unset] [(.int u_highestSequence), (.int p1)])
  by_cases hc121 : p1 < u_highestSequence
  · skip
    have bk122 : ∀ t, Steps p.tables e below (T120.setTop (mkF m 63 #[.val (.ref a1), .val (.int p1), .val (.long q1), .second, .val (.long q2), .second, .val (.int p3), .val (.long (own_bit p1)), .second, .val (.int (0 : Int32)), .val (.int (1 : Int32)), .unset] [(.ref a1), (.ref a1)])) t → Steps p.tables e below (T120.setTop (mkF m 58 #[.val (.ref a1), .val (.int p1), .val (.long q1), .second, .val (.long q2), .second, .val (.int p3), .val (.long (own_bit p1)), .second, .val (.int (0 : Int32)), .val (.int (1 : Int32)), .unset] [(.int u_highestSequence), (.int p1)])) t := fun t k => by
      refine XS.icmpNo X120.here hx rfl (hb hby d3_58) rfl (tlt hc121).2.1 ?_
      refine XS.aloadN X120.here hx rfl (hb hby d3_61) rfl rfl ?_
      refine XS.dup X120.here hx rfl (hb hby d3_62) rfl rfl ?_
      exact k
    refine WP.st bk122 ?_
    clear bk122
    obtain ⟨T123, X123, e123, st123⟩ := getF X120 hx hZ hown (host := "") (Or.inl (hw _ (List.mem_of_getElem? (i := 43) rfl))) Via.refl e120 F_a1_outOfOrder (g := (mkF m 63 #[.val (.ref a1), .val (.int p1), .val (.long q1), .second, .val (.long q2), .second, .val (.int p3), .val (.long (own_bit p1)), .second, .val (.int (0 : Int32)), .val (.int (1 : Int32)), .unset] [(.ref a1), (.ref a1)])) rfl rfl (hb hby d3_63)
    refine WP.st st123 ?_
    clear st123
    show WP p.tables e below _ T123 (mkF m 66 #[.val (.ref a1), .val (.int p1), .val (.long q1), .second, .val (.long q2), .second, .val (.int p3), .val (.long (own_bit p1)), .second, .val (.int (0 : Int32)), .val (.int (1 : Int32)), .unset] [(.long u_outOfOrder), (.ref a1)])
    have bk124 : ∀ t, Steps p.tables e below (T123.setTop (mkF m 68 #[.val (.ref a1), .val (.int p1), .val (.long q1), .second, .val (.long q2), .second, .val (.int p3), .val (.long (own_bit p1)), .second, .val (.int (0 : Int32)), .val (.int (1 : Int32)), .unset] [(.long (u_outOfOrder + (1 : Int64))), (.ref a1)])) t → Steps p.tables e below (T123.setTop (mkF m 66 #[.val (.ref a1), .val (.int p1), .val (.long q1), .second, .val (.long q2), .second, .val (.int p3), .val (.long (own_bit p1)), .second, .val (.int (0 : Int32)), .val (.int (1 : Int32)), .unset] [(.long u_outOfOrder), (.ref a1)])) t := fun t k => by
      refine XS.lconst X123.here hx rfl (hb hby d3_66) ?_
      refine XS.ladd X123.here hx rfl (hb hby d3_67) rfl ?_
      exact k
    refine WP.st bk124 ?_
    clear bk124
    obtain ⟨T125, h125, X125, e125, W125, st125⟩ := putF X123 hx hZ hown (host := "") (Or.inl (hw _ (List.mem_of_getElem? (i := 43) rfl))) Via.refl e123 F_a1_outOfOrder E_a1 (Or.inl (hw _ (List.mem_of_getElem? (i := 44) rfl))) (hw _ (List.mem_of_getElem? (i := 1) rfl)) (ty := .long) (by decide) rfl rfl (g := (mkF m 68 #[.val (.ref a1), .val (.int p1), .val (.long q1), .second, .val (.long q2), .second, .val (.int p3), .val (.long (own_bit p1)), .second, .val (.int (0 : Int32)), .val (.int (1 : Int32)), .unset] [(.long (u_outOfOrder + (1 : Int64))), (.ref a1)])) rfl rfl (hb hby d3_68)
    refine WP.st st125 ?_
    clear st125
    replace E_a1 := E_a1.wr W125
    replace F_a1_highestSequence := F_a1_highestSequence.other W125 (Or.inr (sn_32 hw))
    replace F_a1_messages := F_a1_messages.other W125 (Or.inr (sn_33 hw))
    replace F_a1_delivered := F_a1_delivered.other W125 (Or.inr (sn_34 hw))
    replace F_a1_late := F_a1_late.other W125 (Or.inr (sn_35 hw))
    replace F_a1_outOfOrder := F_a1_outOfOrder.same W125
    replace F_a1_duplicated := F_a1_duplicated.other W125 (Or.inr (sn_36 hw))
    replace F_a1_lastDeliveryNanos := F_a1_lastDeliveryNanos.other W125 (Or.inr (sn_37 hw))
    replace F_a1_seen := F_a1_seen.other W125 (Or.inr (sn_38 hw))
    replace F_a1_latenciesMicros := F_a1_latenciesMicros.other W125 (Or.inr (sn_39 hw))
    replace V_tl := V_tl.other W125 (Ne.symm ne_a1_tl)
    replace V_ts := V_ts.other W125 (Ne.symm ne_a1_ts)
    replace Z0 := Nat.le_trans Z0 (Keep.of_wr W125).1
    replace KP := KP.wr W125 (Or.inl (List.mem_of_getElem? (i := 0) rfl))
    replace NF := Fr.snoc X125 NF g_a1
    clear W125
    show WP p.tables e below _ T125 (mkF m 71 #[.val (.ref a1), .val (.int p1), .val (.long q1), .second, .val (.long q2), .second, .val (.int p3), .val (.long (own_bit p1)), .second, .val (.int (0 : Int32)), .val (.int (1 : Int32)), .unset] [])
    have bk126 : ∀ t, Steps p.tables e below (T125.setTop (mkF m 80 #[.val (.ref a1), .val (.int p1), .val (.long q1), .second, .val (.long q2), .second, .val (.int p3), .val (.long (own_bit p1)), .second, .val (.int (0 : Int32)), .val (.int (1 : Int32)), .unset] [(.ref a1)])) t → Steps p.tables e below (T125.setTop (mkF m 71 #[.val (.ref a1), .val (.int p1), .val (.long q1), .second, .val (.long q2), .second, .val (.int p3), .val (.long (own_bit p1)), .second, .val (.int (0 : Int32)), .val (.int (1 : Int32)), .unset] [])) t := fun t k => by
      refine XS.goto X125.here hx rfl (pc0 := 71) (pc' := 79) rfl (hb hby d3_71) (by decide) (by decide) ?_
      refine XS.aloadN X125.here hx rfl (hb hby d3_79) rfl rfl ?_
      exact k
    refine WP.st bk126 ?_
    clear bk126
    obtain ⟨T127, X127, e127, st127⟩ := getF X125 hx hZ hown (host := "") (Or.inl (hw _ (List.mem_of_getElem? (i := 24) rfl))) Via.refl e125 F_a1_delivered (g := (mkF m 80 #[.val (.ref a1), .val (.int p1), .val (.long q1), .second, .val (.long q2), .second, .val (.int p3), .val (.long (own_bit p1)), .second, .val (.int (0 : Int32)), .val (.int (1 : Int32)), .unset] [(.ref a1)])) rfl rfl (hb hby d3_80)
    refine WP.st st127 ?_
    clear st127
    show WP p.tables e below _ T127 (mkF m 83 #[.val (.ref a1), .val (.int p1), .val (.long q1), .second, .val (.long q2), .second, .val (.int p3), .val (.long (own_bit p1)), .second, .val (.int (0 : Int32)), .val (.int (1 : Int32)), .unset] [(.long u_delivered)])
    have bk128 : ∀ t, Steps p.tables e below (T127.setTop (mkF m 84 #[.val (.ref a1), .val (.int p1), .val (.long q1), .second, .val (.long q2), .second, .val (.int p3), .val (.long (own_bit p1)), .second, .val (.int (0 : Int32)), .val (.int (1 : Int32)), .unset] [(.ref a1), (.long u_delivered)])) t → Steps p.tables e below (T127.setTop (mkF m 83 #[.val (.ref a1), .val (.int p1), .val (.long q1), .second, .val (.long q2), .second, .val (.int p3), .val (.long (own_bit p1)), .second, .val (.int (0 : Int32)), .val (.int (1 : Int32)), .unset] [(.long u_delivered)])) t := fun t k => by
      refine XS.aloadN X127.here hx rfl (hb hby d3_83) rfl rfl ?_
      exact k
    refine WP.st bk128 ?_
    clear bk128
    obtain ⟨T129, X129, e129, st129⟩ := getF X127 hx hZ hown (host := "") (Or.inl (hw _ (List.mem_of_getElem? (i := 26) rfl))) Via.refl e127 F_a1_late (g := (mkF m 84 #[.val (.ref a1), .val (.int p1), .val (.long q1), .second, .val (.long q2), .second, .val (.int p3), .val (.long (own_bit p1)), .second, .val (.int (0 : Int32)), .val (.int (1 : Int32)), .unset] [(.ref a1), (.long u_delivered)])) rfl rfl (hb hby d3_84)
    refine WP.st st129 ?_
    clear st129
    show WP p.tables e below _ T129 (mkF m 87 #[.val (.ref a1), .val (.int p1), .val (.long q1), .second, .val (.long q2), .second, .val (.int p3), .val (.long (own_bit p1)), .second, .val (.int (0 : Int32)), .val (.int (1 : Int32)), .unset] [(.long u_late), (.long u_delivered)])
    have bk130 : ∀ t, Steps p.tables e below (T129.setTop (mkF m 89 #[.val (.ref a1), .val (.int p1), .val (.long q1), .second, .val (.long q2), .second, .val (.int p3), .val (.long (own_bit p1)), .second, .val (.int (0 : Int32)), .val (.int (1 : Int32)), .unset] [(.int ((u_delivered + u_late).toInt32))])) t → Steps p.tables e below (T129.setTop (mkF m 87 #[.val (.ref a1), .val (.int p1), .val (.long q1), .second, .val (.long q2), .second, .val (.int p3), .val (.long (own_bit p1)), .second, .val (.int (0 : Int32)), .val (.int (1 : Int32)), .unset] [(.long u_late), (.long u_delivered)])) t := fun t k => by
      refine XS.ladd X129.here hx rfl (hb hby d3_87) rfl ?_
      refine XS.l2i X129.here hx rfl (hb hby d3_88) rfl ?_
      exact k
    refine WP.st bk130 ?_
    clear bk130
    rw [show ((u_delivered + u_late).toInt32) = (0 : Int32) from by rw [hde]; decide]
    show WP p.tables e below _ T129 (mkF m 89 #[.val (.ref a1), .val (.int p1), .val (.long q1), .second, .val (.long q2), .second, .val (.int p3), .val (.long (own_bit p1)), .second, .val (.int (0 : Int32)), .val (.int (1 : Int32)), .unset] [(.int (0 : Int32))])
    have bk131 : ∀ t, Steps p.tables e below (T129.setTop (mkF m 94 #[.val (.ref a1), .val (.int p1), .val (.long q1), .second, .val (.long q2), .second, .val (.int p3), .val (.long (own_bit p1)), .second, .val (.int (0 : Int32)), .val (.int (1 : Int32)), .val (.int (0 : Int32))] [(.ref a1), (.int (0 : Int32))])) t → Steps p.tables e below (T129.setTop (mkF m 89 #[.val (.ref a1), .val (.int p1), .val (.long q1), .second, .val (.long q2), .second, .val (.int p3), .val (.long (own_bit p1)), .second, .val (.int (0 : Int32)), .val (.int (1 : Int32)), .unset] [(.int (0 : Int32))])) t := fun t k => by
      refine XS.istore X129.here hx rfl (hb hby d3_89) rfl (l' := #[.val (.ref a1), .val (.int p1), .val (.long q1), .second, .val (.long q2), .second, .val (.int p3), .val (.long (own_bit p1)), .second, .val (.int (0 : Int32)), .val (.int (1 : Int32)), .val (.int (0 : Int32))]) rfl ?_
      refine XS.iload X129.here hx rfl (hb hby d3_91) rfl ?_
      refine XS.aloadN X129.here hx rfl (hb hby d3_93) rfl rfl ?_
      exact k
    refine WP.st bk131 ?_
    clear bk131
    obtain ⟨T132, X132, e132, st132⟩ := getF X129 hx hZ hown (host := "") (Or.inl (hw _ (List.mem_of_getElem? (i := 12) rfl))) Via.refl e129 F_a1_latenciesMicros (g := (mkF m 94 #[.val (.ref a1), .val (.int p1), .val (.long q1), .second, .val (.long q2), .second, .val (.int p3), .val (.long (own_bit p1)), .second, .val (.int (0 : Int32)), .val (.int (1 : Int32)), .val (.int (0 : Int32))] [(.ref a1), (.int (0 : Int32))])) rfl rfl (hb hby d3_94)
    refine WP.st st132 ?_
    clear st132
    show WP p.tables e below _ T132 (mkF m 97 #[.val (.ref a1), .val (.int p1), .val (.long q1), .second, .val (.long q2), .second, .val (.int p3), .val (.long (own_bit p1)), .second, .val (.int (0 : Int32)), .val (.int (1 : Int32)), .val (.int (0 : Int32))] [(.ref tl), (.int (0 : Int32))])
    obtain ⟨cl133, Ar133, len133⟩ := V_tl.len
    have bk134 : ∀ t, Steps p.tables e below (T132.setTop (mkF m 120 #[.val (.ref a1), .val (.int p1), .val (.long q1), .second, .val (.long q2), .second, .val (.int p3), .val (.long (own_bit p1)), .second, .val (.int (0 : Int32)), .val (.int (1 : Int32)), .val (.int (0 : Int32))] [(.ref a1)])) t → Steps p.tables e below (T132.setTop (mkF m 97 #[.val (.ref a1), .val (.int p1), .val (.long q1), .second, .val (.long q2), .second, .val (.int p3), .val (.long (own_bit p1)), .second, .val (.int (0 : Int32)), .val (.int (1 : Int32)), .val (.int (0 : Int32))] [(.ref tl), (.int (0 : Int32))])) t := fun t k => by
      refine X132.arraylength hx (by rw [e132]; exact Ar133.1) (State.isArrayOf_alike hZ.alike Ar133.2.1) (g := (mkF m 97 #[.val (.ref a1), .val (.int p1), .val (.long q1), .second, .val (.long q2), .second, .val (.int p3), .val (.long (own_bit p1)), .second, .val (.int (0 : Int32)), .val (.int (1 : Int32)), .val (.int (0 : Int32))] [(.ref tl), (.int (0 : Int32))])) rfl rfl (hb hby d3_97) _ ?_
      rw [len133]
      refine XS.icmpYes X132.here hx rfl (pc0 := 98) (pc' := 119) rfl (hb hby d3_98) rfl (feq (by decide : ¬ ((0 : Int32) = (16 : Int32)))).2 (by decide) (by decide) ?_
      refine XS.aloadN X132.here hx rfl (hb hby d3_119) rfl rfl ?_
      exact k
    refine WP.st bk134 ?_
    clear bk134
    obtain ⟨T135, X135, e135, st135⟩ := getF X132 hx hZ hown (host := "") (Or.inl (hw _ (List.mem_of_getElem? (i := 12) rfl))) Via.refl e132 F_a1_latenciesMicros (g := (mkF m 120 #[.val (.ref a1), .val (.int p1), .val (.long q1), .second, .val (.long q2), .second, .val (.int p3), .val (.long (own_bit p1)), .second, .val (.int (0 : Int32)), .val (.int (1 : Int32)), .val (.int (0 : Int32))] [(.ref a1)])) rfl rfl (hb hby d3_120)
    refine WP.st st135 ?_
    clear st135
    show WP p.tables e below _ T135 (mkF m 123 #[.val (.ref a1), .val (.int p1), .val (.long q1), .second, .val (.long q2), .second, .val (.int p3), .val (.long (own_bit p1)), .second, .val (.int (0 : Int32)), .val (.int (1 : Int32)), .val (.int (0 : Int32))] [(.ref tl)])
    have bk136 : ∀ t, Steps p.tables e below (T135.setTop (mkF m 134 #[.val (.ref a1), .val (.int p1), .val (.long q1), .second, .val (.long q2), .second, .val (.int p3), .val (.long (own_bit p1)), .second, .val (.int (0 : Int32)), .val (.int (1 : Int32)), .val (.int (0 : Int32))] [(.long (q1 / (1000 : Int64))), (.long (0 : Int64)), (.long (2147483647 : Int64)), (.int (0 : Int32)), (.ref tl)])) t → Steps p.tables e below (T135.setTop (mkF m 123 #[.val (.ref a1), .val (.int p1), .val (.long q1), .second, .val (.long q2), .second, .val (.int p3), .val (.long (own_bit p1)), .second, .val (.int (0 : Int32)), .val (.int (1 : Int32)), .val (.int (0 : Int32))] [(.ref tl)])) t := fun t k => by
      refine XS.iload X135.here hx rfl (hb hby d3_123) rfl ?_
      refine X135.ldc2Long hx hown (mvT hZ (hw _ (List.mem_of_getElem? (i := 28) rfl))) (g := (mkF m 125 #[.val (.ref a1), .val (.int p1), .val (.long q1), .second, .val (.long q2), .second, .val (.int p3), .val (.long (own_bit p1)), .second, .val (.int (0 : Int32)), .val (.int (1 : Int32)), .val (.int (0 : Int32))] [(.int (0 : Int32)), (.ref tl)])) rfl (hb hby d3_125) _ ?_
      refine XS.lconst X135.here hx rfl (hb hby d3_128) ?_
      refine XS.lloadN X135.here hx rfl (hb hby d3_129) rfl ?_
      show Steps p.tables e below (T135.setTop (mkF m 130 #[.val (.ref a1), .val (.int p1), .val (.long q1), .second, .val (.long q2), .second, .val (.int p3), .val (.long (own_bit p1)), .second, .val (.int (0 : Int32)), .val (.int (1 : Int32)), .val (.int (0 : Int32))] [(.long q1), (.long (0 : Int64)), (.long (2147483647 : Int64)), (.int (0 : Int32)), (.ref tl)])) t
      refine X135.ldc2Long hx hown (mvT hZ (hw _ (List.mem_of_getElem? (i := 29) rfl))) (g := (mkF m 130 #[.val (.ref a1), .val (.int p1), .val (.long q1), .second, .val (.long q2), .second, .val (.int p3), .val (.long (own_bit p1)), .second, .val (.int (0 : Int32)), .val (.int (1 : Int32)), .val (.int (0 : Int32))] [(.long q1), (.long (0 : Int64)), (.long (2147483647 : Int64)), (.int (0 : Int32)), (.ref tl)])) rfl (hb hby d3_130) _ ?_
      refine XS.ldiv X135.here hx rfl (hb hby d3_133) rfl (by decide) ?_
      exact k
    refine WP.st bk136 ?_
    clear bk136
    obtain ⟨_, _, ⟨T137, L137, k137, n137⟩, -, X137, ⟨Lc137, hQ137, l137, y137, z137⟩, st137⟩ := Jvm.LawKit.callS X135 hx (y := (⟨"java/lang/Math", "max", "(JJ)J"⟩ : MethodName)) hown (mvT hZ (hw _ (List.mem_of_getElem? (i := 30) rfl))) (mvT hZ (hw _ (List.mem_of_getElem? (i := 31) rfl))) (mvT hZ (hw _ (List.mem_of_getElem? (i := 32) rfl))) (mvT hZ (hw _ (List.mem_of_getElem? (i := 33) rfl))) (by decide) (backOf (W := 4) (rm4 l Z a0 hw [] (0 : Int64) (q1 / (1000 : Int64)) h125 n0 Z0 ) hZ (hw _ (List.mem_of_getElem? (i := 33) rfl)) (hw _ (List.mem_of_getElem? (i := 32) rfl)) (by decide) (by decide)) (g := (mkF m 134 #[.val (.ref a1), .val (.int p1), .val (.long q1), .second, .val (.long q2), .second, .val (.int p3), .val (.long (own_bit p1)), .second, .val (.int (0 : Int32)), .val (.int (1 : Int32)), .val (.int (0 : Int32))] [(.long (q1 / (1000 : Int64))), (.long (0 : Int64)), (.long (2147483647 : Int64)), (.int (0 : Int32)), (.ref tl)])) rfl (by rw [hml]; rfl) (argsL := [(.long (0 : Int64)), (.long (q1 / (1000 : Int64)))]) (rest := [(.long (2147483647 : Int64)), (.int (0 : Int32)), (.ref tl)]) (lenOf pd_2 rfl) rfl (by show 2 * 0 + _ ≤ _; exact Nat.le_of_eq rfl) (hb hby d3_134) (fun _ _ => ⟨rfl, e135, (by decide : 0 + 0 ≤ _), (by decide : 0 + 0 ≤ _)⟩)
    dsimp only [Pt.U, Pt.locs, Pt.cells, Pt.slots] at X137 l137 y137 z137 st137 hQ137
    subst l137 y137 z137
    obtain ⟨rfl, Nq137, Kq137⟩ := hQ137
    replace NF := Fr.app NF Nq137
    clear Nq137
    refine WP.st st137 ?_
    clear st137
    replace Kq137 := Kq137.trans (rfl : h125 = h125)
    show WP p.tables e below _ T137 (mkF m 137 #[.val (.ref a1), .val (.int p1), .val (.long q1), .second, .val (.long q2), .second, .val (.int p3), .val (.long (own_bit p1)), .second, .val (.int (0 : Int32)), .val (.int (1 : Int32)), .val (.int (0 : Int32))] [(.long (own_maxl (0 : Int64) (q1 / (1000 : Int64)))), (.long (2147483647 : Int64)), (.int (0 : Int32)), (.ref tl)])
    obtain ⟨_, _, ⟨T138, L138, k138, n138⟩, -, X138, ⟨Lc138, hQ138, l138, y138, z138⟩, st138⟩ := Jvm.LawKit.callS X137 hx (y := (⟨"java/lang/Math", "min", "(JJ)J"⟩ : MethodName)) hown (mvT hZ (hw _ (List.mem_of_getElem? (i := 34) rfl))) (mvT hZ (hw _ (List.mem_of_getElem? (i := 35) rfl))) (mvT hZ (hw _ (List.mem_of_getElem? (i := 32) rfl))) (mvT hZ (hw _ (List.mem_of_getElem? (i := 36) rfl))) (by decide) (backOf (W := 2) (rm5 l Z a0 hw [] (2147483647 : Int64) (own_maxl (0 : Int64) (q1 / (1000 : Int64))) h125 n0 Z0 ) hZ (hw _ (List.mem_of_getElem? (i := 36) rfl)) (hw _ (List.mem_of_getElem? (i := 32) rfl)) (by decide) (by decide)) (g := (mkF m 137 #[.val (.ref a1), .val (.int p1), .val (.long q1), .second, .val (.long q2), .second, .val (.int p3), .val (.long (own_bit p1)), .second, .val (.int (0 : Int32)), .val (.int (1 : Int32)), .val (.int (0 : Int32))] [(.long (own_maxl (0 : Int64) (q1 / (1000 : Int64)))), (.long (2147483647 : Int64)), (.int (0 : Int32)), (.ref tl)])) rfl (by rw [hml]; rfl) (argsL := [(.long (2147483647 : Int64)), (.long (own_maxl (0 : Int64) (q1 / (1000 : Int64))))]) (rest := [(.int (0 : Int32)), (.ref tl)]) (lenOf pd_2 rfl) rfl (by show 2 * 0 + _ ≤ _; exact Nat.le_of_eq rfl) (hb hby d3_137) (fun _ _ => ⟨rfl, Kq137, (by decide : 0 + 0 ≤ _), (by decide : 0 + 0 ≤ _)⟩)
    dsimp only [Pt.U, Pt.locs, Pt.cells, Pt.slots] at X138 l138 y138 z138 st138 hQ138
    subst l138 y138 z138
    obtain ⟨rfl, Nq138, Kq138⟩ := hQ138
    replace NF := Fr.app NF Nq138
    clear Nq138
    refine WP.st st138 ?_
    clear st138
    replace Kq138 := Kq138.trans (rfl : h125 = h125)
    show WP p.tables e below _ T138 (mkF m 140 #[.val (.ref a1), .val (.int p1), .val (.long q1), .second, .val (.long q2), .second, .val (.int p3), .val (.long (own_bit p1)), .second, .val (.int (0 : Int32)), .val (.int (1 : Int32)), .val (.int (0 : Int32))] [(.long (own_minl (2147483647 : Int64) (own_maxl (0 : Int64) (q1 / (1000 : Int64))))), (.int (0 : Int32)), (.ref tl)])
    have bk139 : ∀ t, Steps p.tables e below (T138.setTop (mkF m 141 #[.val (.ref a1), .val (.int p1), .val (.long q1), .second, .val (.long q2), .second, .val (.int p3), .val (.long (own_bit p1)), .second, .val (.int (0 : Int32)), .val (.int (1 : Int32)), .val (.int (0 : Int32))] [(.int ((own_minl (2147483647 : Int64) (own_maxl (0 : Int64) (q1 / (1000 : Int64)))).toInt32)), (.int (0 : Int32)), (.ref tl)])) t → Steps p.tables e below (T138.setTop (mkF m 140 #[.val (.ref a1), .val (.int p1), .val (.long q1), .second, .val (.long q2), .second, .val (.int p3), .val (.long (own_bit p1)), .second, .val (.int (0 : Int32)), .val (.int (1 : Int32)), .val (.int (0 : Int32))] [(.long (own_minl (2147483647 : Int64) (own_maxl (0 : Int64) (q1 / (1000 : Int64))))), (.int (0 : Int32)), (.ref tl)])) t := fun t k => by
      refine XS.l2i X138.here hx rfl (hb hby d3_140) rfl ?_
      exact k
    refine WP.st bk139 ?_
    clear bk139
    rw [show ((own_minl (2147483647 : Int64) (own_maxl (0 : Int64) (q1 / (1000 : Int64)))).toInt32) = (own_lat q1) from rfl]
    show WP p.tables e below _ T138 (mkF m 141 #[.val (.ref a1), .val (.int p1), .val (.long q1), .second, .val (.long q2), .second, .val (.int p3), .val (.long (own_bit p1)), .second, .val (.int (0 : Int32)), .val (.int (1 : Int32)), .val (.int (0 : Int32))] [(.int (own_lat q1)), (.int (0 : Int32)), (.ref tl)])
    obtain ⟨cl140, Ar140, q140, S140, N140, H140, G140⟩ := V_tl
    have hin140 : ¬ ((0 : Int32) < 0 ∨ cl140.slots.size ≤ ((0 : Int32)).toNatClampNeg) := inb_of S140 ⟨by decide, by decide⟩
    obtain ⟨T141, h141, X141, e141, W141, st141⟩ := stI X138 hx hZ Kq138 Ar140 (j := (0 : Int32)) hin140 (g := (mkF m 141 #[.val (.ref a1), .val (.int p1), .val (.long q1), .second, .val (.long q2), .second, .val (.int p3), .val (.long (own_bit p1)), .second, .val (.int (0 : Int32)), .val (.int (1 : Int32)), .val (.int (0 : Int32))] [(.int (own_lat q1)), (.int (0 : Int32)), (.ref tl)])) rfl rfl (hb hby d3_141)
    refine WP.st st141 ?_
    clear st141
    have Vn : Arv Z h141 tl kl .int (16 : Int32) [(.int (own_lat q1)), v1, v2, v3, v4, v5, v6, v7, v8, v9, v10, v11, v12, v13, v14, v15] (.int (0 : Int32)) := Arv.set Ar140 q140 S140 N140 H140 G140 rfl W141 0 rfl (Nat.le_of_ble_eq_true rfl)
    replace E_a1 := E_a1.wr W141
    replace F_a1_highestSequence := F_a1_highestSequence.other W141 (Or.inl ne_a1_tl)
    replace F_a1_messages := F_a1_messages.other W141 (Or.inl ne_a1_tl)
    replace F_a1_delivered := F_a1_delivered.other W141 (Or.inl ne_a1_tl)
    replace F_a1_late := F_a1_late.other W141 (Or.inl ne_a1_tl)
    replace F_a1_outOfOrder := F_a1_outOfOrder.other W141 (Or.inl ne_a1_tl)
    replace F_a1_duplicated := F_a1_duplicated.other W141 (Or.inl ne_a1_tl)
    replace F_a1_lastDeliveryNanos := F_a1_lastDeliveryNanos.other W141 (Or.inl ne_a1_tl)
    replace F_a1_seen := F_a1_seen.other W141 (Or.inl ne_a1_tl)
    replace F_a1_latenciesMicros := F_a1_latenciesMicros.other W141 (Or.inl ne_a1_tl)
    replace V_ts := V_ts.other W141 (Ne.symm ne_tl_ts)
    replace Z0 := Nat.le_trans Z0 (Keep.of_wr W141).1
    replace KP := KP.wr W141 (Or.inl (List.mem_of_getElem? (i := 2) rfl))
    replace V_tl := Vn
    replace NF := Fr.snoc X141 NF g_tl
    clear W141 hin140 q140 S140 N140 H140 G140 Ar140
    show WP p.tables e below _ T141 (mkF m 142 #[.val (.ref a1), .val (.int p1), .val (.long q1), .second, .val (.long q2), .second, .val (.int p3), .val (.long (own_bit p1)), .second, .val (.int (0 : Int32)), .val (.int (1 : Int32)), .val (.int (0 : Int32))] [])
    have bk143 : ∀ t, Steps p.tables e below (T141.setTop (mkF m 144 #[.val (.ref a1), .val (.int p1), .val (.long q1), .second, .val (.long q2), .second, .val (.int p3), .val (.long (own_bit p1)), .second, .val (.int (0 : Int32)), .val (.int (1 : Int32)), .val (.int (0 : Int32))] [(.int p3)])) t → Steps p.tables e below (T141.setTop (mkF m 142 #[.val (.ref a1), .val (.int p1), .val (.long q1), .second, .val (.long q2), .second, .val (.int p3), .val (.long (own_bit p1)), .second, .val (.int (0 : Int32)), .val (.int (1 : Int32)), .val (.int (0 : Int32))] [])) t := fun t k => by
      refine XS.iload X141.here hx rfl (hb hby d3_142) rfl ?_
      exact k
    refine WP.st bk143 ?_
    clear bk143
    by_cases hc142 : p3 = (0 : Int32)
    · skip
      have bk144 : ∀ t, Steps p.tables e below (T141.setTop (mkF m 163 #[.val (.ref a1), .val (.int p1), .val (.long q1), .second, .val (.long q2), .second, .val (.int p3), .val (.long (own_bit p1)), .second, .val (.int (0 : Int32)), .val (.int (1 : Int32)), .val (.int (0 : Int32))] [(.long q2), (.ref a1)])) t → Steps p.tables e below (T141.setTop (mkF m 144 #[.val (.ref a1), .val (.int p1), .val (.long q1), .second, .val (.long q2), .second, .val (.int p3), .val (.long (own_bit p1)), .second, .val (.int (0 : Int32)), .val (.int (1 : Int32)), .val (.int (0 : Int32))] [(.int p3)])) t := fun t k => by
        refine XS.ifYes X141.here hx rfl (pc0 := 144) (pc' := 160) rfl (hb hby d3_144) rfl ((if0 _ _).trans (teq hc142).1) (by decide) (by decide) ?_
        refine XS.aloadN X141.here hx rfl (hb hby d3_160) rfl rfl ?_
        refine XS.lload X141.here hx rfl (hb hby d3_161) rfl ?_
        exact k
      refine WP.st bk144 ?_
      clear bk144
      obtain ⟨T145, h145, X145, e145, W145, st145⟩ := putF X141 hx hZ hown (host := "") (Or.inl (hw _ (List.mem_of_getElem? (i := 65) rfl))) Via.refl e141 F_a1_lastDeliveryNanos E_a1 (Or.inl (hw _ (List.mem_of_getElem? (i := 66) rfl))) (hw _ (List.mem_of_getElem? (i := 1) rfl)) (ty := .long) (by decide) rfl rfl (g := (mkF m 163 #[.val (.ref a1), .val (.int p1), .val (.long q1), .second, .val (.long q2), .second, .val (.int p3), .val (.long (own_bit p1)), .second, .val (.int (0 : Int32)), .val (.int (1 : Int32)), .val (.int (0 : Int32))] [(.long q2), (.ref a1)])) rfl rfl (hb hby d3_163)
      refine WP.st st145 ?_
      clear st145
      replace E_a1 := E_a1.wr W145
      replace F_a1_highestSequence := F_a1_highestSequence.other W145 (Or.inr (sn_40 hw))
      replace F_a1_messages := F_a1_messages.other W145 (Or.inr (sn_41 hw))
      replace F_a1_delivered := F_a1_delivered.other W145 (Or.inr (sn_42 hw))
      replace F_a1_late := F_a1_late.other W145 (Or.inr (sn_43 hw))
      replace F_a1_outOfOrder := F_a1_outOfOrder.other W145 (Or.inr (sn_44 hw))
      replace F_a1_duplicated := F_a1_duplicated.other W145 (Or.inr (sn_45 hw))
      replace F_a1_lastDeliveryNanos := F_a1_lastDeliveryNanos.same W145
      replace F_a1_seen := F_a1_seen.other W145 (Or.inr (sn_46 hw))
      replace F_a1_latenciesMicros := F_a1_latenciesMicros.other W145 (Or.inr (sn_47 hw))
      replace V_ts := V_ts.other W145 (Ne.symm ne_a1_ts)
      replace V_tl := V_tl.other W145 (Ne.symm ne_a1_tl)
      replace Z0 := Nat.le_trans Z0 (Keep.of_wr W145).1
      replace KP := KP.wr W145 (Or.inl (List.mem_of_getElem? (i := 0) rfl))
      replace NF := Fr.snoc X145 NF g_a1
      clear W145
      show WP p.tables e below _ T145 (mkF m 166 #[.val (.ref a1), .val (.int p1), .val (.long q1), .second, .val (.long q2), .second, .val (.int p3), .val (.long (own_bit p1)), .second, .val (.int (0 : Int32)), .val (.int (1 : Int32)), .val (.int (0 : Int32))] [])
      have bk146 : ∀ t, Steps p.tables e below (T145.setTop (mkF m 168 #[.val (.ref a1), .val (.int p1), .val (.long q1), .second, .val (.long q2), .second, .val (.int p3), .val (.long (own_bit p1)), .second, .val (.int (0 : Int32)), .val (.int (1 : Int32)), .val (.int (0 : Int32))] [(.ref a1), (.ref a1)])) t → Steps p.tables e below (T145.setTop (mkF m 166 #[.val (.ref a1), .val (.int p1), .val (.long q1), .second, .val (.long q2), .second, .val (.int p3), .val (.long (own_bit p1)), .second, .val (.int (0 : Int32)), .val (.int (1 : Int32)), .val (.int (0 : Int32))] [])) t := fun t k => by
        refine XS.aloadN X145.here hx rfl (hb hby d3_166) rfl rfl ?_
        refine XS.aloadN X145.here hx rfl (hb hby d3_167) rfl rfl ?_
        exact k
      refine WP.st bk146 ?_
      clear bk146
      obtain ⟨T147, X147, e147, st147⟩ := getF X145 hx hZ hown (host := "") (Or.inl (hw _ (List.mem_of_getElem? (i := 24) rfl))) Via.refl e145 F_a1_delivered (g := (mkF m 168 #[.val (.ref a1), .val (.int p1), .val (.long q1), .second, .val (.long q2), .second, .val (.int p3), .val (.long (own_bit p1)), .second, .val (.int (0 : Int32)), .val (.int (1 : Int32)), .val (.int (0 : Int32))] [(.ref a1), (.ref a1)])) rfl rfl (hb hby d3_168)
      refine WP.st st147 ?_
      clear st147
      show WP p.tables e below _ T147 (mkF m 171 #[.val (.ref a1), .val (.int p1), .val (.long q1), .second, .val (.long q2), .second, .val (.int p3), .val (.long (own_bit p1)), .second, .val (.int (0 : Int32)), .val (.int (1 : Int32)), .val (.int (0 : Int32))] [(.long u_delivered), (.ref a1)])
      have bk148 : ∀ t, Steps p.tables e below (T147.setTop (mkF m 173 #[.val (.ref a1), .val (.int p1), .val (.long q1), .second, .val (.long q2), .second, .val (.int p3), .val (.long (own_bit p1)), .second, .val (.int (0 : Int32)), .val (.int (1 : Int32)), .val (.int (0 : Int32))] [(.long (u_delivered + (1 : Int64))), (.ref a1)])) t → Steps p.tables e below (T147.setTop (mkF m 171 #[.val (.ref a1), .val (.int p1), .val (.long q1), .second, .val (.long q2), .second, .val (.int p3), .val (.long (own_bit p1)), .second, .val (.int (0 : Int32)), .val (.int (1 : Int32)), .val (.int (0 : Int32))] [(.long u_delivered), (.ref a1)])) t := fun t k => by
        refine XS.lconst X147.here hx rfl (hb hby d3_171) ?_
        refine XS.ladd X147.here hx rfl (hb hby d3_172) rfl ?_
        exact k
      refine WP.st bk148 ?_
      clear bk148
      obtain ⟨T149, h149, X149, e149, W149, st149⟩ := putF X147 hx hZ hown (host := "") (Or.inl (hw _ (List.mem_of_getElem? (i := 24) rfl))) Via.refl e147 F_a1_delivered E_a1 (Or.inl (hw _ (List.mem_of_getElem? (i := 25) rfl))) (hw _ (List.mem_of_getElem? (i := 1) rfl)) (ty := .long) (by decide) rfl rfl (g := (mkF m 173 #[.val (.ref a1), .val (.int p1), .val (.long q1), .second, .val (.long q2), .second, .val (.int p3), .val (.long (own_bit p1)), .second, .val (.int (0 : Int32)), .val (.int (1 : Int32)), .val (.int (0 : Int32))] [(.long (u_delivered + (1 : Int64))), (.ref a1)])) rfl rfl (hb hby d3_173)
      refine WP.st st149 ?_
      clear st149
      replace E_a1 := E_a1.wr W149
      replace F_a1_highestSequence := F_a1_highestSequence.other W149 (Or.inr (sn_48 hw))
      replace F_a1_messages := F_a1_messages.other W149 (Or.inr (sn_49 hw))
      replace F_a1_delivered := F_a1_delivered.same W149
      replace F_a1_late := F_a1_late.other W149 (Or.inr (sn_50 hw))
      replace F_a1_outOfOrder := F_a1_outOfOrder.other W149 (Or.inr (sn_51 hw))
      replace F_a1_duplicated := F_a1_duplicated.other W149 (Or.inr (sn_52 hw))
      replace F_a1_lastDeliveryNanos := F_a1_lastDeliveryNanos.other W149 (Or.inr (sn_53 hw))
      replace F_a1_seen := F_a1_seen.other W149 (Or.inr (sn_54 hw))
      replace F_a1_latenciesMicros := F_a1_latenciesMicros.other W149 (Or.inr (sn_55 hw))
      replace V_ts := V_ts.other W149 (Ne.symm ne_a1_ts)
      replace V_tl := V_tl.other W149 (Ne.symm ne_a1_tl)
      replace Z0 := Nat.le_trans Z0 (Keep.of_wr W149).1
      replace KP := KP.wr W149 (Or.inl (List.mem_of_getElem? (i := 0) rfl))
      replace NF := Fr.snoc X149 NF g_a1
      clear W149
      show WP p.tables e below _ T149 (mkF m 176 #[.val (.ref a1), .val (.int p1), .val (.long q1), .second, .val (.long q2), .second, .val (.int p3), .val (.long (own_bit p1)), .second, .val (.int (0 : Int32)), .val (.int (1 : Int32)), .val (.int (0 : Int32))] [])
      have bk150 : ∀ t, Steps p.tables e below (T149.setTop (mkF m 191 #[.val (.ref a1), .val (.int p1), .val (.long q1), .second, .val (.long q2), .second, .val (.int p3), .val (.long (own_bit p1)), .second, .val (.int (0 : Int32)), .val (.int (1 : Int32)), .val (.int (0 : Int32))] [(.int (1 : Int32))])) t → Steps p.tables e below (T149.setTop (mkF m 176 #[.val (.ref a1), .val (.int p1), .val (.long q1), .second, .val (.long q2), .second, .val (.int p3), .val (.long (own_bit p1)), .second, .val (.int (0 : Int32)), .val (.int (1 : Int32)), .val (.int (0 : Int32))] [])) t := fun t k => by
        refine XS.goto X149.here hx rfl (pc0 := 176) (pc' := 189) rfl (hb hby d3_176) (by decide) (by decide) ?_
        refine XS.iload X149.here hx rfl (hb hby d3_189) rfl ?_
        exact k
      refine WP.st bk150 ?_
      clear bk150
      subst hG
      obtain ⟨fs, hr, hrun, hended, hW, hsame⟩ := X149.leave (v := some (.int (1 : Int32))) (fun h => by rw [Bd.returns] at h; cases h)
      refine WP.fin ⟨_, _, ?_, hrun, hended, _, _, rfl, ?_, ⟨_, rfl⟩, hW, hsame.mono (by decide) (by decide)⟩
      · exact retN X149 hx (t := .boolean) Bd.returns (by simp) (hb hby d3_191) hr
      · show Q3f0 Z a1 p1 q1 q2 p3 u_highestSequence u_messages u_delivered u_late u_outOfOrder u_duplicated u_lastDeliveryNanos ts ks tl kl wv v0 v1 v2 v3 v4 v5 v6 v7 v8 v9 v10 v11 v12 v13 v14 v15 h0 n0 _ T149.heap _
        rw [e149]
        exact ⟨(u_delivered + (1 : Int64)), u_late, u_highestSequence, (u_outOfOrder + (1 : Int64)), q2, rfl, NF, KP, F_a1_highestSequence, F_a1_messages, F_a1_delivered, F_a1_late, F_a1_outOfOrder, F_a1_duplicated, F_a1_lastDeliveryNanos, F_a1_seen, F_a1_latenciesMicros, V_ts, V_tl, (by rw [own_d1, hde]; decide)⟩
    · skip
      have bk151 : ∀ t, Steps p.tables e below (T141.setTop (mkF m 149 #[.val (.ref a1), .val (.int p1), .val (.long q1), .second, .val (.long q2), .second, .val (.int p3), .val (.long (own_bit p1)), .second, .val (.int (0 : Int32)), .val (.int (1 : Int32)), .val (.int (0 : Int32))] [(.ref a1), (.ref a1)])) t → Steps p.tables e below (T141.setTop (mkF m 144 #[.val (.ref a1), .val (.int p1), .val (.long q1), .second, .val (.long q2), .second, .val (.int p3), .val (.long (own_bit p1)), .second, .val (.int (0 : Int32)), .val (.int (1 : Int32)), .val (.int (0 : Int32))] [(.int p3)])) t := fun t k => by
        refine XS.ifNo X141.here hx rfl (hb hby d3_144) rfl ((if0 _ _).trans (feq hc142).1) ?_
        refine XS.aloadN X141.here hx rfl (hb hby d3_147) rfl rfl ?_
        refine XS.aloadN X141.here hx rfl (hb hby d3_148) rfl rfl ?_
        exact k
      refine WP.st bk151 ?_
      clear bk151
      obtain ⟨T152, X152, e152, st152⟩ := getF X141 hx hZ hown (host := "") (Or.inl (hw _ (List.mem_of_getElem? (i := 26) rfl))) Via.refl e141 F_a1_late (g := (mkF m 149 #[.val (.ref a1), .val (.int p1), .val (.long q1), .second, .val (.long q2), .second, .val (.int p3), .val (.long (own_bit p1)), .second, .val (.int (0 : Int32)), .val (.int (1 : Int32)), .val (.int (0 : Int32))] [(.ref a1), (.ref a1)])) rfl rfl (hb hby d3_149)
      refine WP.st st152 ?_
      clear st152
      show WP p.tables e below _ T152 (mkF m 152 #[.val (.ref a1), .val (.int p1), .val (.long q1), .second, .val (.long q2), .second, .val (.int p3), .val (.long (own_bit p1)), .second, .val (.int (0 : Int32)), .val (.int (1 : Int32)), .val (.int (0 : Int32))] [(.long u_late), (.ref a1)])
      have bk153 : ∀ t, Steps p.tables e below (T152.setTop (mkF m 154 #[.val (.ref a1), .val (.int p1), .val (.long q1), .second, .val (.long q2), .second, .val (.int p3), .val (.long (own_bit p1)), .second, .val (.int (0 : Int32)), .val (.int (1 : Int32)), .val (.int (0 : Int32))] [(.long (u_late + (1 : Int64))), (.ref a1)])) t → Steps p.tables e below (T152.setTop (mkF m 152 #[.val (.ref a1), .val (.int p1), .val (.long q1), .second, .val (.long q2), .second, .val (.int p3), .val (.long (own_bit p1)), .second, .val (.int (0 : Int32)), .val (.int (1 : Int32)), .val (.int (0 : Int32))] [(.long u_late), (.ref a1)])) t := fun t k => by
        refine XS.lconst X152.here hx rfl (hb hby d3_152) ?_
        refine XS.ladd X152.here hx rfl (hb hby d3_153) rfl ?_
        exact k
      refine WP.st bk153 ?_
      clear bk153
      obtain ⟨T154, h154, X154, e154, W154, st154⟩ := putF X152 hx hZ hown (host := "") (Or.inl (hw _ (List.mem_of_getElem? (i := 26) rfl))) Via.refl e152 F_a1_late E_a1 (Or.inl (hw _ (List.mem_of_getElem? (i := 27) rfl))) (hw _ (List.mem_of_getElem? (i := 1) rfl)) (ty := .long) (by decide) rfl rfl (g := (mkF m 154 #[.val (.ref a1), .val (.int p1), .val (.long q1), .second, .val (.long q2), .second, .val (.int p3), .val (.long (own_bit p1)), .second, .val (.int (0 : Int32)), .val (.int (1 : Int32)), .val (.int (0 : Int32))] [(.long (u_late + (1 : Int64))), (.ref a1)])) rfl rfl (hb hby d3_154)
      refine WP.st st154 ?_
      clear st154
      replace E_a1 := E_a1.wr W154
      replace F_a1_highestSequence := F_a1_highestSequence.other W154 (Or.inr (sn_56 hw))
      replace F_a1_messages := F_a1_messages.other W154 (Or.inr (sn_57 hw))
      replace F_a1_delivered := F_a1_delivered.other W154 (Or.inr (sn_58 hw))
      replace F_a1_late := F_a1_late.same W154
      replace F_a1_outOfOrder := F_a1_outOfOrder.other W154 (Or.inr (sn_59 hw))
      replace F_a1_duplicated := F_a1_duplicated.other W154 (Or.inr (sn_60 hw))
      replace F_a1_lastDeliveryNanos := F_a1_lastDeliveryNanos.other W154 (Or.inr (sn_61 hw))
      replace F_a1_seen := F_a1_seen.other W154 (Or.inr (sn_62 hw))
      replace F_a1_latenciesMicros := F_a1_latenciesMicros.other W154 (Or.inr (sn_63 hw))
      replace V_ts := V_ts.other W154 (Ne.symm ne_a1_ts)
      replace V_tl := V_tl.other W154 (Ne.symm ne_a1_tl)
      replace Z0 := Nat.le_trans Z0 (Keep.of_wr W154).1
      replace KP := KP.wr W154 (Or.inl (List.mem_of_getElem? (i := 0) rfl))
      replace NF := Fr.snoc X154 NF g_a1
      clear W154
      show WP p.tables e below _ T154 (mkF m 157 #[.val (.ref a1), .val (.int p1), .val (.long q1), .second, .val (.long q2), .second, .val (.int p3), .val (.long (own_bit p1)), .second, .val (.int (0 : Int32)), .val (.int (1 : Int32)), .val (.int (0 : Int32))] [])
      have bk155 : ∀ t, Steps p.tables e below (T154.setTop (mkF m 191 #[.val (.ref a1), .val (.int p1), .val (.long q1), .second, .val (.long q2), .second, .val (.int p3), .val (.long (own_bit p1)), .second, .val (.int (0 : Int32)), .val (.int (1 : Int32)), .val (.int (0 : Int32))] [(.int (1 : Int32))])) t → Steps p.tables e below (T154.setTop (mkF m 157 #[.val (.ref a1), .val (.int p1), .val (.long q1), .second, .val (.long q2), .second, .val (.int p3), .val (.long (own_bit p1)), .second, .val (.int (0 : Int32)), .val (.int (1 : Int32)), .val (.int (0 : Int32))] [])) t := fun t k => by
        refine XS.goto X154.here hx rfl (pc0 := 157) (pc' := 176) rfl (hb hby d3_157) (by decide) (by decide) ?_
        refine XS.goto X154.here hx rfl (pc0 := 176) (pc' := 189) rfl (hb hby d3_176) (by decide) (by decide) ?_
        refine XS.iload X154.here hx rfl (hb hby d3_189) rfl ?_
        exact k
      refine WP.st bk155 ?_
      clear bk155
      subst hG
      obtain ⟨fs, hr, hrun, hended, hW, hsame⟩ := X154.leave (v := some (.int (1 : Int32))) (fun h => by rw [Bd.returns] at h; cases h)
      refine WP.fin ⟨_, _, ?_, hrun, hended, _, _, rfl, ?_, ⟨_, rfl⟩, hW, hsame.mono (by decide) (by decide)⟩
      · exact retN X154 hx (t := .boolean) Bd.returns (by simp) (hb hby d3_191) hr
      · show Q3f0 Z a1 p1 q1 q2 p3 u_highestSequence u_messages u_delivered u_late u_outOfOrder u_duplicated u_lastDeliveryNanos ts ks tl kl wv v0 v1 v2 v3 v4 v5 v6 v7 v8 v9 v10 v11 v12 v13 v14 v15 h0 n0 _ T154.heap _
        rw [e154]
        exact ⟨u_delivered, (u_late + (1 : Int64)), u_highestSequence, (u_outOfOrder + (1 : Int64)), u_lastDeliveryNanos, rfl, NF, KP, F_a1_highestSequence, F_a1_messages, F_a1_delivered, F_a1_late, F_a1_outOfOrder, F_a1_duplicated, F_a1_lastDeliveryNanos, F_a1_seen, F_a1_latenciesMicros, V_ts, V_tl, (by rw [own_d2, hde]; decide)⟩
  · skip
    have bk156 : ∀ t, Steps p.tables e below (T120.setTop (mkF m 76 #[.val (.ref a1), .val (.int p1), .val (.long q1), .second, .val (.long q2), .second, .val (.int p3), .val (.long (own_bit p1)), .second, .val (.int (0 : Int32)), .val (.int (1 : Int32)), .unset] [(.int p1), (.ref a1)])) t → Steps p.tables e below (T120.setTop (mkF m 58 #[.val (.ref a1), .val (.int p1), .val (.long q1), .second, .val (.long q2), .second, .val (.int p3), .val (.long (own_bit p1)), .second, .val (.int (0 : Int32)), .val (.int (1 : Int32)), .unset] [(.int u_highestSequence), (.int p1)])) t := fun t k => by
      refine XS.icmpYes X120.here hx rfl (pc0 := 58) (pc' := 74) rfl (hb hby d3_58) rfl (flt hc121).2.1 (by decide) (by decide) ?_
      refine XS.aloadN X120.here hx rfl (hb hby d3_74) rfl rfl ?_
      refine XS.iloadN X120.here hx rfl (hb hby d3_75) rfl ?_
      exact k
    refine WP.st bk156 ?_
    clear bk156
    obtain ⟨T157, h157, X157, e157, W157, st157⟩ := putF X120 hx hZ hown (host := "") (Or.inl (hw _ (List.mem_of_getElem? (i := 9) rfl))) Via.refl e120 F_a1_highestSequence E_a1 (Or.inl (hw _ (List.mem_of_getElem? (i := 10) rfl))) (hw _ (List.mem_of_getElem? (i := 1) rfl)) (ty := .int) (by decide) rfl rfl (g := (mkF m 76 #[.val (.ref a1), .val (.int p1), .val (.long q1), .second, .val (.long q2), .second, .val (.int p3), .val (.long (own_bit p1)), .second, .val (.int (0 : Int32)), .val (.int (1 : Int32)), .unset] [(.int p1), (.ref a1)])) rfl rfl (hb hby d3_76)
    refine WP.st st157 ?_
    clear st157
    replace E_a1 := E_a1.wr W157
    replace F_a1_highestSequence := F_a1_highestSequence.same W157
    replace F_a1_messages := F_a1_messages.other W157 (Or.inr (sn_1 hw))
    replace F_a1_delivered := F_a1_delivered.other W157 (Or.inr (sn_3 hw))
    replace F_a1_late := F_a1_late.other W157 (Or.inr (sn_4 hw))
    replace F_a1_outOfOrder := F_a1_outOfOrder.other W157 (Or.inr (sn_5 hw))
    replace F_a1_duplicated := F_a1_duplicated.other W157 (Or.inr (sn_6 hw))
    replace F_a1_lastDeliveryNanos := F_a1_lastDeliveryNanos.other W157 (Or.inr (sn_7 hw))
    replace F_a1_seen := F_a1_seen.other W157 (Or.inr (sn_2 hw))
    replace F_a1_latenciesMicros := F_a1_latenciesMicros.other W157 (Or.inr (sn_0 hw))
    replace V_tl := V_tl.other W157 (Ne.symm ne_a1_tl)
    replace V_ts := V_ts.other W157 (Ne.symm ne_a1_ts)
    replace Z0 := Nat.le_trans Z0 (Keep.of_wr W157).1
    replace KP := KP.wr W157 (Or.inl (List.mem_of_getElem? (i := 0) rfl))
    replace NF := Fr.snoc X157 NF g_a1
    clear W157
    show WP p.tables e below _ T157 (mkF m 79 #[.val (.ref a1), .val (.int p1), .val (.long q1), .second, .val (.long q2), .second, .val (.int p3), .val (.long (own_bit p1)), .second, .val (.int (0 : Int32)), .val (.int (1 : Int32)), .unset] [])
    have bk158 : ∀ t, Steps p.tables e below (T157.setTop (mkF m 80 #[.val (.ref a1), .val (.int p1), .val (.long q1), .second, .val (.long q2), .second, .val (.int p3), .val (.long (own_bit p1)), .second, .val (.int (0 : Int32)), .val (.int (1 : Int32)), .unset] [(.ref a1)])) t → Steps p.tables e below (T157.setTop (mkF m 79 #[.val (.ref a1), .val (.int p1), .val (.long q1), .second, .val (.long q2), .second, .val (.int p3), .val (.long (own_bit p1)), .second, .val (.int (0 : Int32)), .val (.int (1 : Int32)), .unset] [])) t := fun t k => by
      refine XS.aloadN X157.here hx rfl (hb hby d3_79) rfl rfl ?_
      exact k
    refine WP.st bk158 ?_
    clear bk158
    obtain ⟨T159, X159, e159, st159⟩ := getF X157 hx hZ hown (host := "") (Or.inl (hw _ (List.mem_of_getElem? (i := 24) rfl))) Via.refl e157 F_a1_delivered (g := (mkF m 80 #[.val (.ref a1), .val (.int p1), .val (.long q1), .second, .val (.long q2), .second, .val (.int p3), .val (.long (own_bit p1)), .second, .val (.int (0 : Int32)), .val (.int (1 : Int32)), .unset] [(.ref a1)])) rfl rfl (hb hby d3_80)
    refine WP.st st159 ?_
    clear st159
    show WP p.tables e below _ T159 (mkF m 83 #[.val (.ref a1), .val (.int p1), .val (.long q1), .second, .val (.long q2), .second, .val (.int p3), .val (.long (own_bit p1)), .second, .val (.int (0 : Int32)), .val (.int (1 : Int32)), .unset] [(.long u_delivered)])
    have bk160 : ∀ t, Steps p.tables e below (T159.setTop (mkF m 84 #[.val (.ref a1), .val (.int p1), .val (.long q1), .second, .val (.long q2), .second, .val (.int p3), .val (.long (own_bit p1)), .second, .val (.int (0 : Int32)), .val (.int (1 : Int32)), .unset] [(.ref a1), (.long u_delivered)])) t → Steps p.tables e below (T159.setTop (mkF m 83 #[.val (.ref a1), .val (.int p1), .val (.long q1), .second, .val (.long q2), .second, .val (.int p3), .val (.long (own_bit p1)), .second, .val (.int (0 : Int32)), .val (.int (1 : Int32)), .unset] [(.long u_delivered)])) t := fun t k => by
      refine XS.aloadN X159.here hx rfl (hb hby d3_83) rfl rfl ?_
      exact k
    refine WP.st bk160 ?_
    clear bk160
    obtain ⟨T161, X161, e161, st161⟩ := getF X159 hx hZ hown (host := "") (Or.inl (hw _ (List.mem_of_getElem? (i := 26) rfl))) Via.refl e159 F_a1_late (g := (mkF m 84 #[.val (.ref a1), .val (.int p1), .val (.long q1), .second, .val (.long q2), .second, .val (.int p3), .val (.long (own_bit p1)), .second, .val (.int (0 : Int32)), .val (.int (1 : Int32)), .unset] [(.ref a1), (.long u_delivered)])) rfl rfl (hb hby d3_84)
    refine WP.st st161 ?_
    clear st161
    show WP p.tables e below _ T161 (mkF m 87 #[.val (.ref a1), .val (.int p1), .val (.long q1), .second, .val (.long q2), .second, .val (.int p3), .val (.long (own_bit p1)), .second, .val (.int (0 : Int32)), .val (.int (1 : Int32)), .unset] [(.long u_late), (.long u_delivered)])
    have bk162 : ∀ t, Steps p.tables e below (T161.setTop (mkF m 89 #[.val (.ref a1), .val (.int p1), .val (.long q1), .second, .val (.long q2), .second, .val (.int p3), .val (.long (own_bit p1)), .second, .val (.int (0 : Int32)), .val (.int (1 : Int32)), .unset] [(.int ((u_delivered + u_late).toInt32))])) t → Steps p.tables e below (T161.setTop (mkF m 87 #[.val (.ref a1), .val (.int p1), .val (.long q1), .second, .val (.long q2), .second, .val (.int p3), .val (.long (own_bit p1)), .second, .val (.int (0 : Int32)), .val (.int (1 : Int32)), .unset] [(.long u_late), (.long u_delivered)])) t := fun t k => by
      refine XS.ladd X161.here hx rfl (hb hby d3_87) rfl ?_
      refine XS.l2i X161.here hx rfl (hb hby d3_88) rfl ?_
      exact k
    refine WP.st bk162 ?_
    clear bk162
    rw [show ((u_delivered + u_late).toInt32) = (0 : Int32) from by rw [hde]; decide]
    show WP p.tables e below _ T161 (mkF m 89 #[.val (.ref a1), .val (.int p1), .val (.long q1), .second, .val (.long q2), .second, .val (.int p3), .val (.long (own_bit p1)), .second, .val (.int (0 : Int32)), .val (.int (1 : Int32)), .unset] [(.int (0 : Int32))])
    have bk163 : ∀ t, Steps p.tables e below (T161.setTop (mkF m 94 #[.val (.ref a1), .val (.int p1), .val (.long q1), .second, .val (.long q2), .second, .val (.int p3), .val (.long (own_bit p1)), .second, .val (.int (0 : Int32)), .val (.int (1 : Int32)), .val (.int (0 : Int32))] [(.ref a1), (.int (0 : Int32))])) t → Steps p.tables e below (T161.setTop (mkF m 89 #[.val (.ref a1), .val (.int p1), .val (.long q1), .second, .val (.long q2), .second, .val (.int p3), .val (.long (own_bit p1)), .second, .val (.int (0 : Int32)), .val (.int (1 : Int32)), .unset] [(.int (0 : Int32))])) t := fun t k => by
      refine XS.istore X161.here hx rfl (hb hby d3_89) rfl (l' := #[.val (.ref a1), .val (.int p1), .val (.long q1), .second, .val (.long q2), .second, .val (.int p3), .val (.long (own_bit p1)), .second, .val (.int (0 : Int32)), .val (.int (1 : Int32)), .val (.int (0 : Int32))]) rfl ?_
      refine XS.iload X161.here hx rfl (hb hby d3_91) rfl ?_
      refine XS.aloadN X161.here hx rfl (hb hby d3_93) rfl rfl ?_
      exact k
    refine WP.st bk163 ?_
    clear bk163
    obtain ⟨T164, X164, e164, st164⟩ := getF X161 hx hZ hown (host := "") (Or.inl (hw _ (List.mem_of_getElem? (i := 12) rfl))) Via.refl e161 F_a1_latenciesMicros (g := (mkF m 94 #[.val (.ref a1), .val (.int p1), .val (.long q1), .second, .val (.long q2), .second, .val (.int p3), .val (.long (own_bit p1)), .second, .val (.int (0 : Int32)), .val (.int (1 : Int32)), .val (.int (0 : Int32))] [(.ref a1), (.int (0 : Int32))])) rfl rfl (hb hby d3_94)
    refine WP.st st164 ?_
    clear st164
    show WP p.tables e below _ T164 (mkF m 97 #[.val (.ref a1), .val (.int p1), .val (.long q1), .second, .val (.long q2), .second, .val (.int p3), .val (.long (own_bit p1)), .second, .val (.int (0 : Int32)), .val (.int (1 : Int32)), .val (.int (0 : Int32))] [(.ref tl), (.int (0 : Int32))])
    obtain ⟨cl165, Ar165, len165⟩ := V_tl.len
    have bk166 : ∀ t, Steps p.tables e below (T164.setTop (mkF m 120 #[.val (.ref a1), .val (.int p1), .val (.long q1), .second, .val (.long q2), .second, .val (.int p3), .val (.long (own_bit p1)), .second, .val (.int (0 : Int32)), .val (.int (1 : Int32)), .val (.int (0 : Int32))] [(.ref a1)])) t → Steps p.tables e below (T164.setTop (mkF m 97 #[.val (.ref a1), .val (.int p1), .val (.long q1), .second, .val (.long q2), .second, .val (.int p3), .val (.long (own_bit p1)), .second, .val (.int (0 : Int32)), .val (.int (1 : Int32)), .val (.int (0 : Int32))] [(.ref tl), (.int (0 : Int32))])) t := fun t k => by
      refine X164.arraylength hx (by rw [e164]; exact Ar165.1) (State.isArrayOf_alike hZ.alike Ar165.2.1) (g := (mkF m 97 #[.val (.ref a1), .val (.int p1), .val (.long q1), .second, .val (.long q2), .second, .val (.int p3), .val (.long (own_bit p1)), .second, .val (.int (0 : Int32)), .val (.int (1 : Int32)), .val (.int (0 : Int32))] [(.ref tl), (.int (0 : Int32))])) rfl rfl (hb hby d3_97) _ ?_
      rw [len165]
      refine XS.icmpYes X164.here hx rfl (pc0 := 98) (pc' := 119) rfl (hb hby d3_98) rfl (feq (by decide : ¬ ((0 : Int32) = (16 : Int32)))).2 (by decide) (by decide) ?_
      refine XS.aloadN X164.here hx rfl (hb hby d3_119) rfl rfl ?_
      exact k
    refine WP.st bk166 ?_
    clear bk166
    obtain ⟨T167, X167, e167, st167⟩ := getF X164 hx hZ hown (host := "") (Or.inl (hw _ (List.mem_of_getElem? (i := 12) rfl))) Via.refl e164 F_a1_latenciesMicros (g := (mkF m 120 #[.val (.ref a1), .val (.int p1), .val (.long q1), .second, .val (.long q2), .second, .val (.int p3), .val (.long (own_bit p1)), .second, .val (.int (0 : Int32)), .val (.int (1 : Int32)), .val (.int (0 : Int32))] [(.ref a1)])) rfl rfl (hb hby d3_120)
    refine WP.st st167 ?_
    clear st167
    show WP p.tables e below _ T167 (mkF m 123 #[.val (.ref a1), .val (.int p1), .val (.long q1), .second, .val (.long q2), .second, .val (.int p3), .val (.long (own_bit p1)), .second, .val (.int (0 : Int32)), .val (.int (1 : Int32)), .val (.int (0 : Int32))] [(.ref tl)])
    have bk168 : ∀ t, Steps p.tables e below (T167.setTop (mkF m 134 #[.val (.ref a1), .val (.int p1), .val (.long q1), .second, .val (.long q2), .second, .val (.int p3), .val (.long (own_bit p1)), .second, .val (.int (0 : Int32)), .val (.int (1 : Int32)), .val (.int (0 : Int32))] [(.long (q1 / (1000 : Int64))), (.long (0 : Int64)), (.long (2147483647 : Int64)), (.int (0 : Int32)), (.ref tl)])) t → Steps p.tables e below (T167.setTop (mkF m 123 #[.val (.ref a1), .val (.int p1), .val (.long q1), .second, .val (.long q2), .second, .val (.int p3), .val (.long (own_bit p1)), .second, .val (.int (0 : Int32)), .val (.int (1 : Int32)), .val (.int (0 : Int32))] [(.ref tl)])) t := fun t k => by
      refine XS.iload X167.here hx rfl (hb hby d3_123) rfl ?_
      refine X167.ldc2Long hx hown (mvT hZ (hw _ (List.mem_of_getElem? (i := 28) rfl))) (g := (mkF m 125 #[.val (.ref a1), .val (.int p1), .val (.long q1), .second, .val (.long q2), .second, .val (.int p3), .val (.long (own_bit p1)), .second, .val (.int (0 : Int32)), .val (.int (1 : Int32)), .val (.int (0 : Int32))] [(.int (0 : Int32)), (.ref tl)])) rfl (hb hby d3_125) _ ?_
      refine XS.lconst X167.here hx rfl (hb hby d3_128) ?_
      refine XS.lloadN X167.here hx rfl (hb hby d3_129) rfl ?_
      show Steps p.tables e below (T167.setTop (mkF m 130 #[.val (.ref a1), .val (.int p1), .val (.long q1), .second, .val (.long q2), .second, .val (.int p3), .val (.long (own_bit p1)), .second, .val (.int (0 : Int32)), .val (.int (1 : Int32)), .val (.int (0 : Int32))] [(.long q1), (.long (0 : Int64)), (.long (2147483647 : Int64)), (.int (0 : Int32)), (.ref tl)])) t
      refine X167.ldc2Long hx hown (mvT hZ (hw _ (List.mem_of_getElem? (i := 29) rfl))) (g := (mkF m 130 #[.val (.ref a1), .val (.int p1), .val (.long q1), .second, .val (.long q2), .second, .val (.int p3), .val (.long (own_bit p1)), .second, .val (.int (0 : Int32)), .val (.int (1 : Int32)), .val (.int (0 : Int32))] [(.long q1), (.long (0 : Int64)), (.long (2147483647 : Int64)), (.int (0 : Int32)), (.ref tl)])) rfl (hb hby d3_130) _ ?_
      refine XS.ldiv X167.here hx rfl (hb hby d3_133) rfl (by decide) ?_
      exact k
    refine WP.st bk168 ?_
    clear bk168
    obtain ⟨_, _, ⟨T169, L169, k169, n169⟩, -, X169, ⟨Lc169, hQ169, l169, y169, z169⟩, st169⟩ := Jvm.LawKit.callS X167 hx (y := (⟨"java/lang/Math", "max", "(JJ)J"⟩ : MethodName)) hown (mvT hZ (hw _ (List.mem_of_getElem? (i := 30) rfl))) (mvT hZ (hw _ (List.mem_of_getElem? (i := 31) rfl))) (mvT hZ (hw _ (List.mem_of_getElem? (i := 32) rfl))) (mvT hZ (hw _ (List.mem_of_getElem? (i := 33) rfl))) (by decide) (backOf (W := 4) (rm4 l Z a0 hw [] (0 : Int64) (q1 / (1000 : Int64)) h157 n0 Z0 ) hZ (hw _ (List.mem_of_getElem? (i := 33) rfl)) (hw _ (List.mem_of_getElem? (i := 32) rfl)) (by decide) (by decide)) (g := (mkF m 134 #[.val (.ref a1), .val (.int p1), .val (.long q1), .second, .val (.long q2), .second, .val (.int p3), .val (.long (own_bit p1)), .second, .val (.int (0 : Int32)), .val (.int (1 : Int32)), .val (.int (0 : Int32))] [(.long (q1 / (1000 : Int64))), (.long (0 : Int64)), (.long (2147483647 : Int64)), (.int (0 : Int32)), (.ref tl)])) rfl (by rw [hml]; rfl) (argsL := [(.long (0 : Int64)), (.long (q1 / (1000 : Int64)))]) (rest := [(.long (2147483647 : Int64)), (.int (0 : Int32)), (.ref tl)]) (lenOf pd_2 rfl) rfl (by show 2 * 0 + _ ≤ _; exact Nat.le_of_eq rfl) (hb hby d3_134) (fun _ _ => ⟨rfl, e167, (by decide : 0 + 0 ≤ _), (by decide : 0 + 0 ≤ _)⟩)
    dsimp only [Pt.U, Pt.locs, Pt.cells, Pt.slots] at X169 l169 y169 z169 st169 hQ169
    subst l169 y169 z169
    obtain ⟨rfl, Nq169, Kq169⟩ := hQ169
    replace NF := Fr.app NF Nq169
    clear Nq169
    refine WP.st st169 ?_
    clear st169
    replace Kq169 := Kq169.trans (rfl : h157 = h157)
    show WP p.tables e below _ T169 (mkF m 137 #[.val (.ref a1), .val (.int p1), .val (.long q1), .second, .val (.long q2), .second, .val (.int p3), .val (.long (own_bit p1)), .second, .val (.int (0 : Int32)), .val (.int (1 : Int32)), .val (.int (0 : Int32))] [(.long (own_maxl (0 : Int64) (q1 / (1000 : Int64)))), (.long (2147483647 : Int64)), (.int (0 : Int32)), (.ref tl)])
    obtain ⟨_, _, ⟨T170, L170, k170, n170⟩, -, X170, ⟨Lc170, hQ170, l170, y170, z170⟩, st170⟩ := Jvm.LawKit.callS X169 hx (y := (⟨"java/lang/Math", "min", "(JJ)J"⟩ : MethodName)) hown (mvT hZ (hw _ (List.mem_of_getElem? (i := 34) rfl))) (mvT hZ (hw _ (List.mem_of_getElem? (i := 35) rfl))) (mvT hZ (hw _ (List.mem_of_getElem? (i := 32) rfl))) (mvT hZ (hw _ (List.mem_of_getElem? (i := 36) rfl))) (by decide) (backOf (W := 2) (rm5 l Z a0 hw [] (2147483647 : Int64) (own_maxl (0 : Int64) (q1 / (1000 : Int64))) h157 n0 Z0 ) hZ (hw _ (List.mem_of_getElem? (i := 36) rfl)) (hw _ (List.mem_of_getElem? (i := 32) rfl)) (by decide) (by decide)) (g := (mkF m 137 #[.val (.ref a1), .val (.int p1), .val (.long q1), .second, .val (.long q2), .second, .val (.int p3), .val (.long (own_bit p1)), .second, .val (.int (0 : Int32)), .val (.int (1 : Int32)), .val (.int (0 : Int32))] [(.long (own_maxl (0 : Int64) (q1 / (1000 : Int64)))), (.long (2147483647 : Int64)), (.int (0 : Int32)), (.ref tl)])) rfl (by rw [hml]; rfl) (argsL := [(.long (2147483647 : Int64)), (.long (own_maxl (0 : Int64) (q1 / (1000 : Int64))))]) (rest := [(.int (0 : Int32)), (.ref tl)]) (lenOf pd_2 rfl) rfl (by show 2 * 0 + _ ≤ _; exact Nat.le_of_eq rfl) (hb hby d3_137) (fun _ _ => ⟨rfl, Kq169, (by decide : 0 + 0 ≤ _), (by decide : 0 + 0 ≤ _)⟩)
    dsimp only [Pt.U, Pt.locs, Pt.cells, Pt.slots] at X170 l170 y170 z170 st170 hQ170
    subst l170 y170 z170
    obtain ⟨rfl, Nq170, Kq170⟩ := hQ170
    replace NF := Fr.app NF Nq170
    clear Nq170
    refine WP.st st170 ?_
    clear st170
    replace Kq170 := Kq170.trans (rfl : h157 = h157)
    show WP p.tables e below _ T170 (mkF m 140 #[.val (.ref a1), .val (.int p1), .val (.long q1), .second, .val (.long q2), .second, .val (.int p3), .val (.long (own_bit p1)), .second, .val (.int (0 : Int32)), .val (.int (1 : Int32)), .val (.int (0 : Int32))] [(.long (own_minl (2147483647 : Int64) (own_maxl (0 : Int64) (q1 / (1000 : Int64))))), (.int (0 : Int32)), (.ref tl)])
    have bk171 : ∀ t, Steps p.tables e below (T170.setTop (mkF m 141 #[.val (.ref a1), .val (.int p1), .val (.long q1), .second, .val (.long q2), .second, .val (.int p3), .val (.long (own_bit p1)), .second, .val (.int (0 : Int32)), .val (.int (1 : Int32)), .val (.int (0 : Int32))] [(.int ((own_minl (2147483647 : Int64) (own_maxl (0 : Int64) (q1 / (1000 : Int64)))).toInt32)), (.int (0 : Int32)), (.ref tl)])) t → Steps p.tables e below (T170.setTop (mkF m 140 #[.val (.ref a1), .val (.int p1), .val (.long q1), .second, .val (.long q2), .second, .val (.int p3), .val (.long (own_bit p1)), .second, .val (.int (0 : Int32)), .val (.int (1 : Int32)), .val (.int (0 : Int32))] [(.long (own_minl (2147483647 : Int64) (own_maxl (0 : Int64) (q1 / (1000 : Int64))))), (.int (0 : Int32)), (.ref tl)])) t := fun t k => by
      refine XS.l2i X170.here hx rfl (hb hby d3_140) rfl ?_
      exact k
    refine WP.st bk171 ?_
    clear bk171
    rw [show ((own_minl (2147483647 : Int64) (own_maxl (0 : Int64) (q1 / (1000 : Int64)))).toInt32) = (own_lat q1) from rfl]
    show WP p.tables e below _ T170 (mkF m 141 #[.val (.ref a1), .val (.int p1), .val (.long q1), .second, .val (.long q2), .second, .val (.int p3), .val (.long (own_bit p1)), .second, .val (.int (0 : Int32)), .val (.int (1 : Int32)), .val (.int (0 : Int32))] [(.int (own_lat q1)), (.int (0 : Int32)), (.ref tl)])
    obtain ⟨cl172, Ar172, q172, S172, N172, H172, G172⟩ := V_tl
    have hin172 : ¬ ((0 : Int32) < 0 ∨ cl172.slots.size ≤ ((0 : Int32)).toNatClampNeg) := inb_of S172 ⟨by decide, by decide⟩
    obtain ⟨T173, h173, X173, e173, W173, st173⟩ := stI X170 hx hZ Kq170 Ar172 (j := (0 : Int32)) hin172 (g := (mkF m 141 #[.val (.ref a1), .val (.int p1), .val (.long q1), .second, .val (.long q2), .second, .val (.int p3), .val (.long (own_bit p1)), .second, .val (.int (0 : Int32)), .val (.int (1 : Int32)), .val (.int (0 : Int32))] [(.int (own_lat q1)), (.int (0 : Int32)), (.ref tl)])) rfl rfl (hb hby d3_141)
    refine WP.st st173 ?_
    clear st173
    have Vn : Arv Z h173 tl kl .int (16 : Int32) [(.int (own_lat q1)), v1, v2, v3, v4, v5, v6, v7, v8, v9, v10, v11, v12, v13, v14, v15] (.int (0 : Int32)) := Arv.set Ar172 q172 S172 N172 H172 G172 rfl W173 0 rfl (Nat.le_of_ble_eq_true rfl)
    replace E_a1 := E_a1.wr W173
    replace F_a1_highestSequence := F_a1_highestSequence.other W173 (Or.inl ne_a1_tl)
    replace F_a1_messages := F_a1_messages.other W173 (Or.inl ne_a1_tl)
    replace F_a1_delivered := F_a1_delivered.other W173 (Or.inl ne_a1_tl)
    replace F_a1_late := F_a1_late.other W173 (Or.inl ne_a1_tl)
    replace F_a1_outOfOrder := F_a1_outOfOrder.other W173 (Or.inl ne_a1_tl)
    replace F_a1_duplicated := F_a1_duplicated.other W173 (Or.inl ne_a1_tl)
    replace F_a1_lastDeliveryNanos := F_a1_lastDeliveryNanos.other W173 (Or.inl ne_a1_tl)
    replace F_a1_seen := F_a1_seen.other W173 (Or.inl ne_a1_tl)
    replace F_a1_latenciesMicros := F_a1_latenciesMicros.other W173 (Or.inl ne_a1_tl)
    replace V_ts := V_ts.other W173 (Ne.symm ne_tl_ts)
    replace Z0 := Nat.le_trans Z0 (Keep.of_wr W173).1
    replace KP := KP.wr W173 (Or.inl (List.mem_of_getElem? (i := 2) rfl))
    replace V_tl := Vn
    replace NF := Fr.snoc X173 NF g_tl
    clear W173 hin172 q172 S172 N172 H172 G172 Ar172
    show WP p.tables e below _ T173 (mkF m 142 #[.val (.ref a1), .val (.int p1), .val (.long q1), .second, .val (.long q2), .second, .val (.int p3), .val (.long (own_bit p1)), .second, .val (.int (0 : Int32)), .val (.int (1 : Int32)), .val (.int (0 : Int32))] [])
    have bk175 : ∀ t, Steps p.tables e below (T173.setTop (mkF m 144 #[.val (.ref a1), .val (.int p1), .val (.long q1), .second, .val (.long q2), .second, .val (.int p3), .val (.long (own_bit p1)), .second, .val (.int (0 : Int32)), .val (.int (1 : Int32)), .val (.int (0 : Int32))] [(.int p3)])) t → Steps p.tables e below (T173.setTop (mkF m 142 #[.val (.ref a1), .val (.int p1), .val (.long q1), .second, .val (.long q2), .second, .val (.int p3), .val (.long (own_bit p1)), .second, .val (.int (0 : Int32)), .val (.int (1 : Int32)), .val (.int (0 : Int32))] [])) t := fun t k => by
      refine XS.iload X173.here hx rfl (hb hby d3_142) rfl ?_
      exact k
    refine WP.st bk175 ?_
    clear bk175
    by_cases hc174 : p3 = (0 : Int32)
    · skip
      have bk176 : ∀ t, Steps p.tables e below (T173.setTop (mkF m 163 #[.val (.ref a1), .val (.int p1), .val (.long q1), .second, .val (.long q2), .second, .val (.int p3), .val (.long (own_bit p1)), .second, .val (.int (0 : Int32)), .val (.int (1 : Int32)), .val (.int (0 : Int32))] [(.long q2), (.ref a1)])) t → Steps p.tables e below (T173.setTop (mkF m 144 #[.val (.ref a1), .val (.int p1), .val (.long q1), .second, .val (.long q2), .second, .val (.int p3), .val (.long (own_bit p1)), .second, .val (.int (0 : Int32)), .val (.int (1 : Int32)), .val (.int (0 : Int32))] [(.int p3)])) t := fun t k => by
        refine XS.ifYes X173.here hx rfl (pc0 := 144) (pc' := 160) rfl (hb hby d3_144) rfl ((if0 _ _).trans (teq hc174).1) (by decide) (by decide) ?_
        refine XS.aloadN X173.here hx rfl (hb hby d3_160) rfl rfl ?_
        refine XS.lload X173.here hx rfl (hb hby d3_161) rfl ?_
        exact k
      refine WP.st bk176 ?_
      clear bk176
      obtain ⟨T177, h177, X177, e177, W177, st177⟩ := putF X173 hx hZ hown (host := "") (Or.inl (hw _ (List.mem_of_getElem? (i := 65) rfl))) Via.refl e173 F_a1_lastDeliveryNanos E_a1 (Or.inl (hw _ (List.mem_of_getElem? (i := 66) rfl))) (hw _ (List.mem_of_getElem? (i := 1) rfl)) (ty := .long) (by decide) rfl rfl (g := (mkF m 163 #[.val (.ref a1), .val (.int p1), .val (.long q1), .second, .val (.long q2), .second, .val (.int p3), .val (.long (own_bit p1)), .second, .val (.int (0 : Int32)), .val (.int (1 : Int32)), .val (.int (0 : Int32))] [(.long q2), (.ref a1)])) rfl rfl (hb hby d3_163)
      refine WP.st st177 ?_
      clear st177
      replace E_a1 := E_a1.wr W177
      replace F_a1_highestSequence := F_a1_highestSequence.other W177 (Or.inr (sn_40 hw))
      replace F_a1_messages := F_a1_messages.other W177 (Or.inr (sn_41 hw))
      replace F_a1_delivered := F_a1_delivered.other W177 (Or.inr (sn_42 hw))
      replace F_a1_late := F_a1_late.other W177 (Or.inr (sn_43 hw))
      replace F_a1_outOfOrder := F_a1_outOfOrder.other W177 (Or.inr (sn_44 hw))
      replace F_a1_duplicated := F_a1_duplicated.other W177 (Or.inr (sn_45 hw))
      replace F_a1_lastDeliveryNanos := F_a1_lastDeliveryNanos.same W177
      replace F_a1_seen := F_a1_seen.other W177 (Or.inr (sn_46 hw))
      replace F_a1_latenciesMicros := F_a1_latenciesMicros.other W177 (Or.inr (sn_47 hw))
      replace V_ts := V_ts.other W177 (Ne.symm ne_a1_ts)
      replace V_tl := V_tl.other W177 (Ne.symm ne_a1_tl)
      replace Z0 := Nat.le_trans Z0 (Keep.of_wr W177).1
      replace KP := KP.wr W177 (Or.inl (List.mem_of_getElem? (i := 0) rfl))
      replace NF := Fr.snoc X177 NF g_a1
      clear W177
      show WP p.tables e below _ T177 (mkF m 166 #[.val (.ref a1), .val (.int p1), .val (.long q1), .second, .val (.long q2), .second, .val (.int p3), .val (.long (own_bit p1)), .second, .val (.int (0 : Int32)), .val (.int (1 : Int32)), .val (.int (0 : Int32))] [])
      have bk178 : ∀ t, Steps p.tables e below (T177.setTop (mkF m 168 #[.val (.ref a1), .val (.int p1), .val (.long q1), .second, .val (.long q2), .second, .val (.int p3), .val (.long (own_bit p1)), .second, .val (.int (0 : Int32)), .val (.int (1 : Int32)), .val (.int (0 : Int32))] [(.ref a1), (.ref a1)])) t → Steps p.tables e below (T177.setTop (mkF m 166 #[.val (.ref a1), .val (.int p1), .val (.long q1), .second, .val (.long q2), .second, .val (.int p3), .val (.long (own_bit p1)), .second, .val (.int (0 : Int32)), .val (.int (1 : Int32)), .val (.int (0 : Int32))] [])) t := fun t k => by
        refine XS.aloadN X177.here hx rfl (hb hby d3_166) rfl rfl ?_
        refine XS.aloadN X177.here hx rfl (hb hby d3_167) rfl rfl ?_
        exact k
      refine WP.st bk178 ?_
      clear bk178
      obtain ⟨T179, X179, e179, st179⟩ := getF X177 hx hZ hown (host := "") (Or.inl (hw _ (List.mem_of_getElem? (i := 24) rfl))) Via.refl e177 F_a1_delivered (g := (mkF m 168 #[.val (.ref a1), .val (.int p1), .val (.long q1), .second, .val (.long q2), .second, .val (.int p3), .val (.long (own_bit p1)), .second, .val (.int (0 : Int32)), .val (.int (1 : Int32)), .val (.int (0 : Int32))] [(.ref a1), (.ref a1)])) rfl rfl (hb hby d3_168)
      refine WP.st st179 ?_
      clear st179
      show WP p.tables e below _ T179 (mkF m 171 #[.val (.ref a1), .val (.int p1), .val (.long q1), .second, .val (.long q2), .second, .val (.int p3), .val (.long (own_bit p1)), .second, .val (.int (0 : Int32)), .val (.int (1 : Int32)), .val (.int (0 : Int32))] [(.long u_delivered), (.ref a1)])
      have bk180 : ∀ t, Steps p.tables e below (T179.setTop (mkF m 173 #[.val (.ref a1), .val (.int p1), .val (.long q1), .second, .val (.long q2), .second, .val (.int p3), .val (.long (own_bit p1)), .second, .val (.int (0 : Int32)), .val (.int (1 : Int32)), .val (.int (0 : Int32))] [(.long (u_delivered + (1 : Int64))), (.ref a1)])) t → Steps p.tables e below (T179.setTop (mkF m 171 #[.val (.ref a1), .val (.int p1), .val (.long q1), .second, .val (.long q2), .second, .val (.int p3), .val (.long (own_bit p1)), .second, .val (.int (0 : Int32)), .val (.int (1 : Int32)), .val (.int (0 : Int32))] [(.long u_delivered), (.ref a1)])) t := fun t k => by
        refine XS.lconst X179.here hx rfl (hb hby d3_171) ?_
        refine XS.ladd X179.here hx rfl (hb hby d3_172) rfl ?_
        exact k
      refine WP.st bk180 ?_
      clear bk180
      obtain ⟨T181, h181, X181, e181, W181, st181⟩ := putF X179 hx hZ hown (host := "") (Or.inl (hw _ (List.mem_of_getElem? (i := 24) rfl))) Via.refl e179 F_a1_delivered E_a1 (Or.inl (hw _ (List.mem_of_getElem? (i := 25) rfl))) (hw _ (List.mem_of_getElem? (i := 1) rfl)) (ty := .long) (by decide) rfl rfl (g := (mkF m 173 #[.val (.ref a1), .val (.int p1), .val (.long q1), .second, .val (.long q2), .second, .val (.int p3), .val (.long (own_bit p1)), .second, .val (.int (0 : Int32)), .val (.int (1 : Int32)), .val (.int (0 : Int32))] [(.long (u_delivered + (1 : Int64))), (.ref a1)])) rfl rfl (hb hby d3_173)
      refine WP.st st181 ?_
      clear st181
      replace E_a1 := E_a1.wr W181
      replace F_a1_highestSequence := F_a1_highestSequence.other W181 (Or.inr (sn_48 hw))
      replace F_a1_messages := F_a1_messages.other W181 (Or.inr (sn_49 hw))
      replace F_a1_delivered := F_a1_delivered.same W181
      replace F_a1_late := F_a1_late.other W181 (Or.inr (sn_50 hw))
      replace F_a1_outOfOrder := F_a1_outOfOrder.other W181 (Or.inr (sn_51 hw))
      replace F_a1_duplicated := F_a1_duplicated.other W181 (Or.inr (sn_52 hw))
      replace F_a1_lastDeliveryNanos := F_a1_lastDeliveryNanos.other W181 (Or.inr (sn_53 hw))
      replace F_a1_seen := F_a1_seen.other W181 (Or.inr (sn_54 hw))
      replace F_a1_latenciesMicros := F_a1_latenciesMicros.other W181 (Or.inr (sn_55 hw))
      replace V_ts := V_ts.other W181 (Ne.symm ne_a1_ts)
      replace V_tl := V_tl.other W181 (Ne.symm ne_a1_tl)
      replace Z0 := Nat.le_trans Z0 (Keep.of_wr W181).1
      replace KP := KP.wr W181 (Or.inl (List.mem_of_getElem? (i := 0) rfl))
      replace NF := Fr.snoc X181 NF g_a1
      clear W181
      show WP p.tables e below _ T181 (mkF m 176 #[.val (.ref a1), .val (.int p1), .val (.long q1), .second, .val (.long q2), .second, .val (.int p3), .val (.long (own_bit p1)), .second, .val (.int (0 : Int32)), .val (.int (1 : Int32)), .val (.int (0 : Int32))] [])
      have bk182 : ∀ t, Steps p.tables e below (T181.setTop (mkF m 191 #[.val (.ref a1), .val (.int p1), .val (.long q1), .second, .val (.long q2), .second, .val (.int p3), .val (.long (own_bit p1)), .second, .val (.int (0 : Int32)), .val (.int (1 : Int32)), .val (.int (0 : Int32))] [(.int (1 : Int32))])) t → Steps p.tables e below (T181.setTop (mkF m 176 #[.val (.ref a1), .val (.int p1), .val (.long q1), .second, .val (.long q2), .second, .val (.int p3), .val (.long (own_bit p1)), .second, .val (.int (0 : Int32)), .val (.int (1 : Int32)), .val (.int (0 : Int32))] [])) t := fun t k => by
        refine XS.goto X181.here hx rfl (pc0 := 176) (pc' := 189) rfl (hb hby d3_176) (by decide) (by decide) ?_
        refine XS.iload X181.here hx rfl (hb hby d3_189) rfl ?_
        exact k
      refine WP.st bk182 ?_
      clear bk182
      subst hG
      obtain ⟨fs, hr, hrun, hended, hW, hsame⟩ := X181.leave (v := some (.int (1 : Int32))) (fun h => by rw [Bd.returns] at h; cases h)
      refine WP.fin ⟨_, _, ?_, hrun, hended, _, _, rfl, ?_, ⟨_, rfl⟩, hW, hsame.mono (by decide) (by decide)⟩
      · exact retN X181 hx (t := .boolean) Bd.returns (by simp) (hb hby d3_191) hr
      · show Q3f0 Z a1 p1 q1 q2 p3 u_highestSequence u_messages u_delivered u_late u_outOfOrder u_duplicated u_lastDeliveryNanos ts ks tl kl wv v0 v1 v2 v3 v4 v5 v6 v7 v8 v9 v10 v11 v12 v13 v14 v15 h0 n0 _ T181.heap _
        rw [e181]
        exact ⟨(u_delivered + (1 : Int64)), u_late, p1, u_outOfOrder, q2, rfl, NF, KP, F_a1_highestSequence, F_a1_messages, F_a1_delivered, F_a1_late, F_a1_outOfOrder, F_a1_duplicated, F_a1_lastDeliveryNanos, F_a1_seen, F_a1_latenciesMicros, V_ts, V_tl, (by rw [own_d1, hde]; decide)⟩
    · skip
      have bk183 : ∀ t, Steps p.tables e below (T173.setTop (mkF m 149 #[.val (.ref a1), .val (.int p1), .val (.long q1), .second, .val (.long q2), .second, .val (.int p3), .val (.long (own_bit p1)), .second, .val (.int (0 : Int32)), .val (.int (1 : Int32)), .val (.int (0 : Int32))] [(.ref a1), (.ref a1)])) t → Steps p.tables e below (T173.setTop (mkF m 144 #[.val (.ref a1), .val (.int p1), .val (.long q1), .second, .val (.long q2), .second, .val (.int p3), .val (.long (own_bit p1)), .second, .val (.int (0 : Int32)), .val (.int (1 : Int32)), .val (.int (0 : Int32))] [(.int p3)])) t := fun t k => by
        refine XS.ifNo X173.here hx rfl (hb hby d3_144) rfl ((if0 _ _).trans (feq hc174).1) ?_
        refine XS.aloadN X173.here hx rfl (hb hby d3_147) rfl rfl ?_
        refine XS.aloadN X173.here hx rfl (hb hby d3_148) rfl rfl ?_
        exact k
      refine WP.st bk183 ?_
      clear bk183
      obtain ⟨T184, X184, e184, st184⟩ := getF X173 hx hZ hown (host := "") (Or.inl (hw _ (List.mem_of_getElem? (i := 26) rfl))) Via.refl e173 F_a1_late (g := (mkF m 149 #[.val (.ref a1), .val (.int p1), .val (.long q1), .second, .val (.long q2), .second, .val (.int p3), .val (.long (own_bit p1)), .second, .val (.int (0 : Int32)), .val (.int (1 : Int32)), .val (.int (0 : Int32))] [(.ref a1), (.ref a1)])) rfl rfl (hb hby d3_149)
      refine WP.st st184 ?_
      clear st184
      show WP p.tables e below _ T184 (mkF m 152 #[.val (.ref a1), .val (.int p1), .val (.long q1), .second, .val (.long q2), .second, .val (.int p3), .val (.long (own_bit p1)), .second, .val (.int (0 : Int32)), .val (.int (1 : Int32)), .val (.int (0 : Int32))] [(.long u_late), (.ref a1)])
      have bk185 : ∀ t, Steps p.tables e below (T184.setTop (mkF m 154 #[.val (.ref a1), .val (.int p1), .val (.long q1), .second, .val (.long q2), .second, .val (.int p3), .val (.long (own_bit p1)), .second, .val (.int (0 : Int32)), .val (.int (1 : Int32)), .val (.int (0 : Int32))] [(.long (u_late + (1 : Int64))), (.ref a1)])) t → Steps p.tables e below (T184.setTop (mkF m 152 #[.val (.ref a1), .val (.int p1), .val (.long q1), .second, .val (.long q2), .second, .val (.int p3), .val (.long (own_bit p1)), .second, .val (.int (0 : Int32)), .val (.int (1 : Int32)), .val (.int (0 : Int32))] [(.long u_late), (.ref a1)])) t := fun t k => by
        refine XS.lconst X184.here hx rfl (hb hby d3_152) ?_
        refine XS.ladd X184.here hx rfl (hb hby d3_153) rfl ?_
        exact k
      refine WP.st bk185 ?_
      clear bk185
      obtain ⟨T186, h186, X186, e186, W186, st186⟩ := putF X184 hx hZ hown (host := "") (Or.inl (hw _ (List.mem_of_getElem? (i := 26) rfl))) Via.refl e184 F_a1_late E_a1 (Or.inl (hw _ (List.mem_of_getElem? (i := 27) rfl))) (hw _ (List.mem_of_getElem? (i := 1) rfl)) (ty := .long) (by decide) rfl rfl (g := (mkF m 154 #[.val (.ref a1), .val (.int p1), .val (.long q1), .second, .val (.long q2), .second, .val (.int p3), .val (.long (own_bit p1)), .second, .val (.int (0 : Int32)), .val (.int (1 : Int32)), .val (.int (0 : Int32))] [(.long (u_late + (1 : Int64))), (.ref a1)])) rfl rfl (hb hby d3_154)
      refine WP.st st186 ?_
      clear st186
      replace E_a1 := E_a1.wr W186
      replace F_a1_highestSequence := F_a1_highestSequence.other W186 (Or.inr (sn_56 hw))
      replace F_a1_messages := F_a1_messages.other W186 (Or.inr (sn_57 hw))
      replace F_a1_delivered := F_a1_delivered.other W186 (Or.inr (sn_58 hw))
      replace F_a1_late := F_a1_late.same W186
      replace F_a1_outOfOrder := F_a1_outOfOrder.other W186 (Or.inr (sn_59 hw))
      replace F_a1_duplicated := F_a1_duplicated.other W186 (Or.inr (sn_60 hw))
      replace F_a1_lastDeliveryNanos := F_a1_lastDeliveryNanos.other W186 (Or.inr (sn_61 hw))
      replace F_a1_seen := F_a1_seen.other W186 (Or.inr (sn_62 hw))
      replace F_a1_latenciesMicros := F_a1_latenciesMicros.other W186 (Or.inr (sn_63 hw))
      replace V_ts := V_ts.other W186 (Ne.symm ne_a1_ts)
      replace V_tl := V_tl.other W186 (Ne.symm ne_a1_tl)
      replace Z0 := Nat.le_trans Z0 (Keep.of_wr W186).1
      replace KP := KP.wr W186 (Or.inl (List.mem_of_getElem? (i := 0) rfl))
      replace NF := Fr.snoc X186 NF g_a1
      clear W186
      show WP p.tables e below _ T186 (mkF m 157 #[.val (.ref a1), .val (.int p1), .val (.long q1), .second, .val (.long q2), .second, .val (.int p3), .val (.long (own_bit p1)), .second, .val (.int (0 : Int32)), .val (.int (1 : Int32)), .val (.int (0 : Int32))] [])
      have bk187 : ∀ t, Steps p.tables e below (T186.setTop (mkF m 191 #[.val (.ref a1), .val (.int p1), .val (.long q1), .second, .val (.long q2), .second, .val (.int p3), .val (.long (own_bit p1)), .second, .val (.int (0 : Int32)), .val (.int (1 : Int32)), .val (.int (0 : Int32))] [(.int (1 : Int32))])) t → Steps p.tables e below (T186.setTop (mkF m 157 #[.val (.ref a1), .val (.int p1), .val (.long q1), .second, .val (.long q2), .second, .val (.int p3), .val (.long (own_bit p1)), .second, .val (.int (0 : Int32)), .val (.int (1 : Int32)), .val (.int (0 : Int32))] [])) t := fun t k => by
        refine XS.goto X186.here hx rfl (pc0 := 157) (pc' := 176) rfl (hb hby d3_157) (by decide) (by decide) ?_
        refine XS.goto X186.here hx rfl (pc0 := 176) (pc' := 189) rfl (hb hby d3_176) (by decide) (by decide) ?_
        refine XS.iload X186.here hx rfl (hb hby d3_189) rfl ?_
        exact k
      refine WP.st bk187 ?_
      clear bk187
      subst hG
      obtain ⟨fs, hr, hrun, hended, hW, hsame⟩ := X186.leave (v := some (.int (1 : Int32))) (fun h => by rw [Bd.returns] at h; cases h)
      refine WP.fin ⟨_, _, ?_, hrun, hended, _, _, rfl, ?_, ⟨_, rfl⟩, hW, hsame.mono (by decide) (by decide)⟩
      · exact retN X186 hx (t := .boolean) Bd.returns (by simp) (hb hby d3_191) hr
      · show Q3f0 Z a1 p1 q1 q2 p3 u_highestSequence u_messages u_delivered u_late u_outOfOrder u_duplicated u_lastDeliveryNanos ts ks tl kl wv v0 v1 v2 v3 v4 v5 v6 v7 v8 v9 v10 v11 v12 v13 v14 v15 h0 n0 _ T186.heap _
        rw [e186]
        exact ⟨u_delivered, (u_late + (1 : Int64)), p1, u_outOfOrder, u_lastDeliveryNanos, rfl, NF, KP, F_a1_highestSequence, F_a1_messages, F_a1_delivered, F_a1_late, F_a1_outOfOrder, F_a1_duplicated, F_a1_lastDeliveryNanos, F_a1_seen, F_a1_latenciesMicros, V_ts, V_tl, (by rw [own_d2, hde]; decide)⟩
theorem ef_3f1 (m : MethodId) (a1 : Addr) (p1 : Int32) (q1 : Int64) (q2 : Int64) (p3 : Int32) : entryFrame m #[(.ref a1), (.int p1), (.long q1), (.long q2), (.int p3)] 12 = mkF m 0 #[.val (.ref a1), .val (.int p1), .val (.long q1), .second, .val (.long q2), .second, .val (.int p3), .unset, .unset, .unset, .unset, .unset] [] := by first | (simp [entryFrame, mkF, argsToLocals, Value.category]; done) | rfl
def Q3f1 (Z : State) (a1 : Addr) (p1 : Int32) (q1 : Int64) (q2 : Int64) (p3 : Int32) (u_highestSequence : Int32) (u_messages : Int32) (u_delivered : Int64) (u_late : Int64) (u_outOfOrder : Int64) (u_duplicated : Int64) (u_lastDeliveryNanos : Int64) (ts : Addr) (ks : ClassId) (tl : Addr) (kl : ClassId) (wv : Int64) (v0 : Value) (v1 : Value) (v2 : Value) (v3 : Value) (v4 : Value) (v5 : Value) (v6 : Value) (v7 : Value) (v8 : Value) (v9 : Value) (v10 : Value) (v11 : Value) (v12 : Value) (v13 : Value) (v14 : Value) (v15 : Value) (h0 : Heap) (n0 : Nat) (v : Option Value) (h : Heap) (L : List Loc) : Prop := ∃ d1 : Int64, ∃ l1 : Int64, ∃ s1 : Int32, ∃ o1 : Int64, ∃ n1 : Int64, v = some (.int (1 : Int32)) ∧ Fr n0 L ∧ Keep h0 h [a1, ts, tl] ∧ Fld Z h a1 "com/example/otayori/otayori/bench/PairTally" "highestSequence" "I" (.int s1) ∧ Fld Z h a1 "com/example/otayori/otayori/bench/PairTally" "messages" "I" (.int u_messages) ∧ Fld Z h a1 "com/example/otayori/otayori/bench/PairTally" "delivered" "J" (.long d1) ∧ Fld Z h a1 "com/example/otayori/otayori/bench/PairTally" "late" "J" (.long l1) ∧ Fld Z h a1 "com/example/otayori/otayori/bench/PairTally" "outOfOrder" "J" (.long o1) ∧ Fld Z h a1 "com/example/otayori/otayori/bench/PairTally" "duplicated" "J" (.long u_duplicated) ∧ Fld Z h a1 "com/example/otayori/otayori/bench/PairTally" "lastDeliveryNanos" "J" (.long n1) ∧ Fld Z h a1 "com/example/otayori/otayori/bench/PairTally" "seen" "[J" (.ref ts) ∧ Fld Z h a1 "com/example/otayori/otayori/bench/PairTally" "latenciesMicros" "[I" (.ref tl) ∧ (Arv Z h ts ks .long (1 : Int32) [(.long (wv ||| (own_bit p1)))] (.long (0 : Int64))) ∧ (Arv Z h tl kl .int (16 : Int32) [v0, (.int (own_lat q1)), v2, v3, v4, v5, v6, v7, v8, v9, v10, v11, v12, v13, v14, v15] (.int (0 : Int32))) ∧ (d1 + l1 = (2 : Int64))
set_option maxRecDepth 65536 in
set_option maxHeartbeats 40000000 in
theorem rm3f1 (l : Launch) (Z : State) (a0 : Array Value) (hw : ∀ d ∈ tables_1, d.before a0 Z = true) (ws : List Jvm.Cond) (a1 : Addr) (p1 : Int32) (q1 : Int64) (q2 : Int64) (p3 : Int32) (u_highestSequence : Int32) (u_messages : Int32) (u_delivered : Int64) (u_late : Int64) (u_outOfOrder : Int64) (u_duplicated : Int64) (u_lastDeliveryNanos : Int64) (ts : Addr) (ks : ClassId) (tl : Addr) (kl : ClassId) (wv : Int64) (v0 : Value) (v1 : Value) (v2 : Value) (v3 : Value) (v4 : Value) (v5 : Value) (v6 : Value) (v7 : Value) (v8 : Value) (v9 : Value) (v10 : Value) (v11 : Value) (v12 : Value) (v13 : Value) (v14 : Value) (v15 : Value) (h0 : Heap) (n0 : Nat) (Z0 : n0 ≤ h0.size) (E_a1 : Exa Z h0 a1 "com/example/otayori/otayori/bench/PairTally") (g_a1 : n0 ≤ a1) (F_a1_highestSequence : Fld Z h0 a1 "com/example/otayori/otayori/bench/PairTally" "highestSequence" "I" (.int u_highestSequence)) (F_a1_messages : Fld Z h0 a1 "com/example/otayori/otayori/bench/PairTally" "messages" "I" (.int u_messages)) (F_a1_delivered : Fld Z h0 a1 "com/example/otayori/otayori/bench/PairTally" "delivered" "J" (.long u_delivered)) (F_a1_late : Fld Z h0 a1 "com/example/otayori/otayori/bench/PairTally" "late" "J" (.long u_late)) (F_a1_outOfOrder : Fld Z h0 a1 "com/example/otayori/otayori/bench/PairTally" "outOfOrder" "J" (.long u_outOfOrder)) (F_a1_duplicated : Fld Z h0 a1 "com/example/otayori/otayori/bench/PairTally" "duplicated" "J" (.long u_duplicated)) (F_a1_lastDeliveryNanos : Fld Z h0 a1 "com/example/otayori/otayori/bench/PairTally" "lastDeliveryNanos" "J" (.long u_lastDeliveryNanos)) (F_a1_seen : Fld Z h0 a1 "com/example/otayori/otayori/bench/PairTally" "seen" "[J" (.ref ts)) (F_a1_latenciesMicros : Fld Z h0 a1 "com/example/otayori/otayori/bench/PairTally" "latenciesMicros" "[I" (.ref tl)) (V_ts : Arv Z h0 ts ks .long (1 : Int32) [(.long wv)] (.long (0 : Int64))) (V_tl : Arv Z h0 tl kl .int (16 : Int32) [v0, v1, v2, v3, v4, v5, v6, v7, v8, v9, v10, v11, v12, v13, v14, v15] (.int (0 : Int32))) (g_ts : n0 ≤ ts) (g_tl : n0 ≤ tl) (ne_a1_ts : a1 ≠ ts) (ne_a1_tl : a1 ≠ tl) (ne_tl_ts : tl ≠ ts) (h8 : own_small p1) (hfirst : (lcmpW (wv &&& (own_bit p1)) (0 : Int64)) = (0 : Int32)) (hde : u_delivered + u_late = (1 : Int64)) :
    MetFree l (⟨"com/example/otayori/otayori/bench/PairTally", "record", "(IJJZ)Z"⟩ : MethodName) (head1 (Jvm.Cond.code (⟨"com/example/otayori/otayori/bench/PairTally", "record", "(IJJZ)Z"⟩ : MethodName) prog_3_method_2_code 12 (some .boolean) :: ws) ({ frames := 1, cells := 0, slots := 0, locals := 19 } : Room)) (fun a U => a = #[(.ref a1), (.int p1), (.long q1), (.long q2), (.int p3)] ∧ Z.Warmed39 U.vm ∧ U.heap = h0) (fun _ _ _ _ _ => True) (fun _ U o U' => ∃ v L, o = .returned v ∧ Q3f1 Z a1 p1 q1 q2 p3 u_highestSequence u_messages u_delivered u_late u_outOfOrder u_duplicated u_lastDeliveryNanos ts ks tl kl wv v0 v1 v2 v3 v4 v5 v6 v7 v8 v9 v10 v11 v12 v13 v14 v15 h0 n0 v U'.heap L ∧ FrameEnd U o U' L ({ frames := 1, cells := 0, slots := 0, locals := 19 } : Room).cells ({ frames := 1, cells := 0, slots := 0, locals := 19 } : Room).slots) := by
  refine MetFree.of_bodySF (plainFor_of_name pn_0) hisR ?_
  intro p e s m args below meth c s₁ Bd hml0 hP hK
  obtain ⟨rfl, hZ, hh⟩ := hP
  have hx := Bd.exec
  have hby := Bd.bytes
  have hml : c.maxLocals = 12 := hml0
  have hown : s.vm.findClass "com/example/otayori/otayori/bench/PairTally" = some m.cls := findClass_of_methodNamed Bd.named
  have hnm := (name_of_methodNamed Bd.named Bd.method).1
  have X0 : Stand p l e ({ frames := 1, cells := 0, slots := 0, locals := 19 } : Room) s m #[(.ref a1), (.int p1), (.long q1), (.long q2), (.int p3)] below meth c s₁ [] 0 0 := Stand.of_body Bd
  have e0 : s₁.heap = h0 := by rw [← hh, Bd.state]; rfl
  have NF := Fr.nil n0
  have KP : Keep h0 h0 [a1, ts, tl] := Keep.refl h0 _
  refine WP.go ?_
  refine WP.cast (ef_3f1 m a1 p1 q1 q2 p3) ?_
  refine WP.name ?_
  intro G hG
  have bk188 : ∀ t, Steps p.tables e below (s₁.setTop (mkF m 6 #[.val (.ref a1), .val (.int p1), .val (.long q1), .second, .val (.long q2), .second, .val (.int p3), .unset, .unset, .unset, .unset, .unset] [(.long ((1 : Int64) <<< ((p1 % (64 : Int32)) &&& 0x3f).toInt64))])) t → Steps p.tables e below (s₁.setTop (mkF m 0 #[.val (.ref a1), .val (.int p1), .val (.long q1), .second, .val (.long q2), .second, .val (.int p3), .unset, .unset, .unset, .unset, .unset] [])) t := fun t k => by
    refine XS.lconst X0.here hx rfl (hb hby d3_0) ?_
    refine XS.iloadN X0.here hx rfl (hb hby d3_1) rfl ?_
    refine XS.bipush X0.here hx rfl (hb hby d3_2) ?_
    refine iremM X0 hx rfl (hb hby d3_4) rfl (by decide) ?_
    show Steps p.tables e below (s₁.setTop (mkF m 5 #[.val (.ref a1), .val (.int p1), .val (.long q1), .second, .val (.long q2), .second, .val (.int p3), .unset, .unset, .unset, .unset, .unset] [(.int (p1 % (64 : Int32))), (.long (1 : Int64))])) t
    refine XS.lshl X0.here hx rfl (hb hby d3_5) rfl ?_
    exact k
  refine WP.st bk188 ?_
  clear bk188
  rw [show ((1 : Int64) <<< ((p1 % (64 : Int32)) &&& 0x3f).toInt64) = (own_bit p1) from rfl]
  show WP p.tables e below _ s₁ (mkF m 6 #[.val (.ref a1), .val (.int p1), .val (.long q1), .second, .val (.long q2), .second, .val (.int p3), .unset, .unset, .unset, .unset, .unset] [(.long (own_bit p1))])
  have bk189 : ∀ t, Steps p.tables e below (s₁.setTop (mkF m 12 #[.val (.ref a1), .val (.int p1), .val (.long q1), .second, .val (.long q2), .second, .val (.int p3), .val (.long (own_bit p1)), .second, .unset, .unset, .unset] [(.int (p1 / (64 : Int32)))])) t → Steps p.tables e below (s₁.setTop (mkF m 6 #[.val (.ref a1), .val (.int p1), .val (.long q1), .second, .val (.long q2), .second, .val (.int p3), .unset, .unset, .unset, .unset, .unset] [(.long (own_bit p1))])) t := fun t k => by
    refine XS.lstore X0.here hx rfl (hb hby d3_6) rfl (l' := #[.val (.ref a1), .val (.int p1), .val (.long q1), .second, .val (.long q2), .second, .val (.int p3), .val (.long (own_bit p1)), .second, .unset, .unset, .unset]) rfl ?_
    refine XS.iloadN X0.here hx rfl (hb hby d3_8) rfl ?_
    refine XS.bipush X0.here hx rfl (hb hby d3_9) ?_
    refine XS.idiv X0.here hx rfl (hb hby d3_11) rfl (by decide) ?_
    exact k
  refine WP.st bk189 ?_
  clear bk189
  rw [show (p1 / (64 : Int32)) = (0 : Int32) from own_div h8]
  show WP p.tables e below _ s₁ (mkF m 12 #[.val (.ref a1), .val (.int p1), .val (.long q1), .second, .val (.long q2), .second, .val (.int p3), .val (.long (own_bit p1)), .second, .unset, .unset, .unset] [(.int (0 : Int32))])
  have bk190 : ∀ t, Steps p.tables e below (s₁.setTop (mkF m 15 #[.val (.ref a1), .val (.int p1), .val (.long q1), .second, .val (.long q2), .second, .val (.int p3), .val (.long (own_bit p1)), .second, .val (.int (0 : Int32)), .unset, .unset] [(.ref a1)])) t → Steps p.tables e below (s₁.setTop (mkF m 12 #[.val (.ref a1), .val (.int p1), .val (.long q1), .second, .val (.long q2), .second, .val (.int p3), .val (.long (own_bit p1)), .second, .unset, .unset, .unset] [(.int (0 : Int32))])) t := fun t k => by
    refine XS.istore X0.here hx rfl (hb hby d3_12) rfl (l' := #[.val (.ref a1), .val (.int p1), .val (.long q1), .second, .val (.long q2), .second, .val (.int p3), .val (.long (own_bit p1)), .second, .val (.int (0 : Int32)), .unset, .unset]) rfl ?_
    refine XS.aloadN X0.here hx rfl (hb hby d3_14) rfl rfl ?_
    exact k
  refine WP.st bk190 ?_
  clear bk190
  obtain ⟨T191, X191, e191, st191⟩ := getF X0 hx hZ hown (host := "") (Or.inl (hw _ (List.mem_of_getElem? (i := 17) rfl))) Via.refl e0 F_a1_seen (g := (mkF m 15 #[.val (.ref a1), .val (.int p1), .val (.long q1), .second, .val (.long q2), .second, .val (.int p3), .val (.long (own_bit p1)), .second, .val (.int (0 : Int32)), .unset, .unset] [(.ref a1)])) rfl rfl (hb hby d3_15)
  refine WP.st st191 ?_
  clear st191
  show WP p.tables e below _ T191 (mkF m 18 #[.val (.ref a1), .val (.int p1), .val (.long q1), .second, .val (.long q2), .second, .val (.int p3), .val (.long (own_bit p1)), .second, .val (.int (0 : Int32)), .unset, .unset] [(.ref ts)])
  have bk192 : ∀ t, Steps p.tables e below (T191.setTop (mkF m 20 #[.val (.ref a1), .val (.int p1), .val (.long q1), .second, .val (.long q2), .second, .val (.int p3), .val (.long (own_bit p1)), .second, .val (.int (0 : Int32)), .unset, .unset] [(.int (0 : Int32)), (.ref ts)])) t → Steps p.tables e below (T191.setTop (mkF m 18 #[.val (.ref a1), .val (.int p1), .val (.long q1), .second, .val (.long q2), .second, .val (.int p3), .val (.long (own_bit p1)), .second, .val (.int (0 : Int32)), .unset, .unset] [(.ref ts)])) t := fun t k => by
    refine XS.iload X191.here hx rfl (hb hby d3_18) rfl ?_
    exact k
  refine WP.st bk192 ?_
  clear bk192
  obtain ⟨cl193, Ar193, hin193, hat193, -⟩ := V_ts.rd (j := (0 : Int32)) ⟨by decide, by decide⟩
  replace hat193 : cl193.slots[((0 : Int32)).toNatClampNeg]? = some (.long wv) := hat193
  have bk194 : ∀ t, Steps p.tables e below (T191.setTop (mkF m 42 #[.val (.ref a1), .val (.int p1), .val (.long q1), .second, .val (.long q2), .second, .val (.int p3), .val (.long (own_bit p1)), .second, .val (.int (0 : Int32)), .val (.int (1 : Int32)), .unset] [(.ref a1)])) t → Steps p.tables e below (T191.setTop (mkF m 20 #[.val (.ref a1), .val (.int p1), .val (.long q1), .second, .val (.long q2), .second, .val (.int p3), .val (.long (own_bit p1)), .second, .val (.int (0 : Int32)), .unset, .unset] [(.int (0 : Int32)), (.ref ts)])) t := fun t k => by
    refine X191.laload hx (j := (0 : Int32)) (v := (.long wv)) (by rw [e191]; exact Ar193.1) (State.isArrayOf_alike hZ.alike Ar193.2.1) Ar193.2.2 hin193 hat193 (g := (mkF m 20 #[.val (.ref a1), .val (.int p1), .val (.long q1), .second, .val (.long q2), .second, .val (.int p3), .val (.long (own_bit p1)), .second, .val (.int (0 : Int32)), .unset, .unset] [(.int (0 : Int32)), (.ref ts)])) rfl rfl (hb hby d3_20) _ ?_
    refine XS.lload X191.here hx rfl (hb hby d3_21) rfl ?_
    refine XS.land X191.here hx rfl (hb hby d3_23) rfl ?_
    refine XS.lconst X191.here hx rfl (hb hby d3_24) ?_
    show Steps p.tables e below (T191.setTop (mkF m 25 #[.val (.ref a1), .val (.int p1), .val (.long q1), .second, .val (.long q2), .second, .val (.int p3), .val (.long (own_bit p1)), .second, .val (.int (0 : Int32)), .unset, .unset] [(.long (0 : Int64)), (.long (wv &&& (own_bit p1)))])) t
    refine XS.lcmp X191.here hx rfl (hb hby d3_25) rfl ?_
    refine XS.ifNo X191.here hx rfl (hb hby d3_26) rfl ((if0 _ _).trans (teq hfirst).2) ?_
    refine XS.iconst X191.here hx rfl (hb hby d3_29) ?_
    refine XS.goto X191.here hx rfl (pc0 := 30) (pc' := 34) rfl (hb hby d3_30) (by decide) (by decide) ?_
    show Steps p.tables e below (T191.setTop (mkF m 34 #[.val (.ref a1), .val (.int p1), .val (.long q1), .second, .val (.long q2), .second, .val (.int p3), .val (.long (own_bit p1)), .second, .val (.int (0 : Int32)), .unset, .unset] [(.int (1 : Int32))])) t
    refine XS.istore X191.here hx rfl (hb hby d3_34) rfl (l' := #[.val (.ref a1), .val (.int p1), .val (.long q1), .second, .val (.long q2), .second, .val (.int p3), .val (.long (own_bit p1)), .second, .val (.int (0 : Int32)), .val (.int (1 : Int32)), .unset]) rfl ?_
    refine XS.iload X191.here hx rfl (hb hby d3_36) rfl ?_
    refine XS.ifNo X191.here hx rfl (hb hby d3_38) rfl ((if0 _ _).trans (feq (by decide : ¬ ((1 : Int32) = (0 : Int32)))).1) ?_
    refine XS.aloadN X191.here hx rfl (hb hby d3_41) rfl rfl ?_
    exact k
  refine WP.st bk194 ?_
  clear bk194
  obtain ⟨T195, X195, e195, st195⟩ := getF X191 hx hZ hown (host := "") (Or.inl (hw _ (List.mem_of_getElem? (i := 17) rfl))) Via.refl e191 F_a1_seen (g := (mkF m 42 #[.val (.ref a1), .val (.int p1), .val (.long q1), .second, .val (.long q2), .second, .val (.int p3), .val (.long (own_bit p1)), .second, .val (.int (0 : Int32)), .val (.int (1 : Int32)), .unset] [(.ref a1)])) rfl rfl (hb hby d3_42)
  refine WP.st st195 ?_
  clear st195
  show WP p.tables e below _ T195 (mkF m 45 #[.val (.ref a1), .val (.int p1), .val (.long q1), .second, .val (.long q2), .second, .val (.int p3), .val (.long (own_bit p1)), .second, .val (.int (0 : Int32)), .val (.int (1 : Int32)), .unset] [(.ref ts)])
  have bk196 : ∀ t, Steps p.tables e below (T195.setTop (mkF m 48 #[.val (.ref a1), .val (.int p1), .val (.long q1), .second, .val (.long q2), .second, .val (.int p3), .val (.long (own_bit p1)), .second, .val (.int (0 : Int32)), .val (.int (1 : Int32)), .unset] [(.int (0 : Int32)), (.ref ts), (.int (0 : Int32)), (.ref ts)])) t → Steps p.tables e below (T195.setTop (mkF m 45 #[.val (.ref a1), .val (.int p1), .val (.long q1), .second, .val (.long q2), .second, .val (.int p3), .val (.long (own_bit p1)), .second, .val (.int (0 : Int32)), .val (.int (1 : Int32)), .unset] [(.ref ts)])) t := fun t k => by
    refine XS.iload X195.here hx rfl (hb hby d3_45) rfl ?_
    refine Jvm.Free.XT.dup2 X195.here hx rfl (hb hby d3_47) rfl rfl rfl ?_
    exact k
  refine WP.st bk196 ?_
  clear bk196
  obtain ⟨cl197, Ar197, hin197, hat197, -⟩ := V_ts.rd (j := (0 : Int32)) ⟨by decide, by decide⟩
  replace hat197 : cl197.slots[((0 : Int32)).toNatClampNeg]? = some (.long wv) := hat197
  have bk198 : ∀ t, Steps p.tables e below (T195.setTop (mkF m 52 #[.val (.ref a1), .val (.int p1), .val (.long q1), .second, .val (.long q2), .second, .val (.int p3), .val (.long (own_bit p1)), .second, .val (.int (0 : Int32)), .val (.int (1 : Int32)), .unset] [(.long (wv ||| (own_bit p1))), (.int (0 : Int32)), (.ref ts)])) t → Steps p.tables e below (T195.setTop (mkF m 48 #[.val (.ref a1), .val (.int p1), .val (.long q1), .second, .val (.long q2), .second, .val (.int p3), .val (.long (own_bit p1)), .second, .val (.int (0 : Int32)), .val (.int (1 : Int32)), .unset] [(.int (0 : Int32)), (.ref ts), (.int (0 : Int32)), (.ref ts)])) t := fun t k => by
    refine X195.laload hx (j := (0 : Int32)) (v := (.long wv)) (by rw [e195]; exact Ar197.1) (State.isArrayOf_alike hZ.alike Ar197.2.1) Ar197.2.2 hin197 hat197 (g := (mkF m 48 #[.val (.ref a1), .val (.int p1), .val (.long q1), .second, .val (.long q2), .second, .val (.int p3), .val (.long (own_bit p1)), .second, .val (.int (0 : Int32)), .val (.int (1 : Int32)), .unset] [(.int (0 : Int32)), (.ref ts), (.int (0 : Int32)), (.ref ts)])) rfl rfl (hb hby d3_48) _ ?_
    refine XS.lload X195.here hx rfl (hb hby d3_49) rfl ?_
    refine XS.lor X195.here hx rfl (hb hby d3_51) rfl ?_
    exact k
  refine WP.st bk198 ?_
  clear bk198
  obtain ⟨cl199, Ar199, q199, S199, N199, H199, G199⟩ := V_ts
  have hin199 : ¬ ((0 : Int32) < 0 ∨ cl199.slots.size ≤ ((0 : Int32)).toNatClampNeg) := inb_of S199 ⟨by decide, by decide⟩
  obtain ⟨T200, h200, X200, e200, W200, st200⟩ := stJ X195 hx hZ e195 Ar199 (j := (0 : Int32)) hin199 (g := (mkF m 52 #[.val (.ref a1), .val (.int p1), .val (.long q1), .second, .val (.long q2), .second, .val (.int p3), .val (.long (own_bit p1)), .second, .val (.int (0 : Int32)), .val (.int (1 : Int32)), .unset] [(.long (wv ||| (own_bit p1))), (.int (0 : Int32)), (.ref ts)])) rfl rfl (hb hby d3_52)
  refine WP.st st200 ?_
  clear st200
  have Vn : Arv Z h200 ts ks .long (1 : Int32) [(.long (wv ||| (own_bit p1)))] (.long (0 : Int64)) := Arv.set Ar199 q199 S199 N199 H199 G199 rfl W200 0 rfl (Nat.le_of_ble_eq_true rfl)
  replace E_a1 := E_a1.wr W200
  replace F_a1_highestSequence := F_a1_highestSequence.other W200 (Or.inl ne_a1_ts)
  replace F_a1_messages := F_a1_messages.other W200 (Or.inl ne_a1_ts)
  replace F_a1_delivered := F_a1_delivered.other W200 (Or.inl ne_a1_ts)
  replace F_a1_late := F_a1_late.other W200 (Or.inl ne_a1_ts)
  replace F_a1_outOfOrder := F_a1_outOfOrder.other W200 (Or.inl ne_a1_ts)
  replace F_a1_duplicated := F_a1_duplicated.other W200 (Or.inl ne_a1_ts)
  replace F_a1_lastDeliveryNanos := F_a1_lastDeliveryNanos.other W200 (Or.inl ne_a1_ts)
  replace F_a1_seen := F_a1_seen.other W200 (Or.inl ne_a1_ts)
  replace F_a1_latenciesMicros := F_a1_latenciesMicros.other W200 (Or.inl ne_a1_ts)
  replace V_tl := V_tl.other W200 ne_tl_ts
  replace Z0 := Nat.le_trans Z0 (Keep.of_wr W200).1
  replace KP := KP.wr W200 (Or.inl (List.mem_of_getElem? (i := 1) rfl))
  replace V_ts := Vn
  replace NF := Fr.snoc X200 NF g_ts
  clear W200 hin199 q199 S199 N199 H199 G199 Ar199
  show WP p.tables e below _ T200 (mkF m 53 #[.val (.ref a1), .val (.int p1), .val (.long q1), .second, .val (.long q2), .second, .val (.int p3), .val (.long (own_bit p1)), .second, .val (.int (0 : Int32)), .val (.int (1 : Int32)), .unset] [])
  have bk201 : ∀ t, Steps p.tables e below (T200.setTop (mkF m 55 #[.val (.ref a1), .val (.int p1), .val (.long q1), .second, .val (.long q2), .second, .val (.int p3), .val (.long (own_bit p1)), .second, .val (.int (0 : Int32)), .val (.int (1 : Int32)), .unset] [(.ref a1), (.int p1)])) t → Steps p.tables e below (T200.setTop (mkF m 53 #[.val (.ref a1), .val (.int p1), .val (.long q1), .second, .val (.long q2), .second, .val (.int p3), .val (.long (own_bit p1)), .second, .val (.int (0 : Int32)), .val (.int (1 : Int32)), .unset] [])) t := fun t k => by
    refine XS.iloadN X200.here hx rfl (hb hby d3_53) rfl ?_
    refine XS.aloadN X200.here hx rfl (hb hby d3_54) rfl rfl ?_
    exact k
  refine WP.st bk201 ?_
  clear bk201
  obtain ⟨T202, X202, e202, st202⟩ := getF X200 hx hZ hown (host := "") (Or.inl (hw _ (List.mem_of_getElem? (i := 9) rfl))) Via.refl e200 F_a1_highestSequence (g := (mkF m 55 #[.val (.ref a1), .val (.int p1), .val (.long q1), .second, .val (.long q2), .second, .val (.int p3), .val (.long (own_bit p1)), .second, .val (.int (0 : Int32)), .val (.int (1 : Int32)), .unset] [(.ref a1), (.int p1)])) rfl rfl (hb hby d3_55)
  refine WP.st st202 ?_
  clear st202
  show WP p.tables e below _ T202 (mkF m 58 #[.val (.ref a1), .val (.int p1), .val (.long q1), .second, .val (.long q2), .second, .val (.int p3), .val (.long (own_bit p1)), .second, .val (.int (0 : Int32)), .val (.int (1 : Int32)), .unset] [(.int u_highestSequence), (.int p1)])
  by_cases hc203 : p1 < u_highestSequence
  · skip
    have bk204 : ∀ t, Steps p.tables e below (T202.setTop (mkF m 63 #[.val (.ref a1), .val (.int p1), .val (.long q1), .second, .val (.long q2), .second, .val (.int p3), .val (.long (own_bit p1)), .second, .val (.int (0 : Int32)), .val (.int (1 : Int32)), .unset] [(.ref a1), (.ref a1)])) t → Steps p.tables e below (T202.setTop (mkF m 58 #[.val (.ref a1), .val (.int p1), .val (.long q1), .second, .val (.long q2), .second, .val (.int p3), .val (.long (own_bit p1)), .second, .val (.int (0 : Int32)), .val (.int (1 : Int32)), .unset] [(.int u_highestSequence), (.int p1)])) t := fun t k => by
      refine XS.icmpNo X202.here hx rfl (hb hby d3_58) rfl (tlt hc203).2.1 ?_
      refine XS.aloadN X202.here hx rfl (hb hby d3_61) rfl rfl ?_
      refine XS.dup X202.here hx rfl (hb hby d3_62) rfl rfl ?_
      exact k
    refine WP.st bk204 ?_
    clear bk204
    obtain ⟨T205, X205, e205, st205⟩ := getF X202 hx hZ hown (host := "") (Or.inl (hw _ (List.mem_of_getElem? (i := 43) rfl))) Via.refl e202 F_a1_outOfOrder (g := (mkF m 63 #[.val (.ref a1), .val (.int p1), .val (.long q1), .second, .val (.long q2), .second, .val (.int p3), .val (.long (own_bit p1)), .second, .val (.int (0 : Int32)), .val (.int (1 : Int32)), .unset] [(.ref a1), (.ref a1)])) rfl rfl (hb hby d3_63)
    refine WP.st st205 ?_
    clear st205
    show WP p.tables e below _ T205 (mkF m 66 #[.val (.ref a1), .val (.int p1), .val (.long q1), .second, .val (.long q2), .second, .val (.int p3), .val (.long (own_bit p1)), .second, .val (.int (0 : Int32)), .val (.int (1 : Int32)), .unset] [(.long u_outOfOrder), (.ref a1)])
    have bk206 : ∀ t, Steps p.tables e below (T205.setTop (mkF m 68 #[.val (.ref a1), .val (.int p1), .val (.long q1), .second, .val (.long q2), .second, .val (.int p3), .val (.long (own_bit p1)), .second, .val (.int (0 : Int32)), .val (.int (1 : Int32)), .unset] [(.long (u_outOfOrder + (1 : Int64))), (.ref a1)])) t → Steps p.tables e below (T205.setTop (mkF m 66 #[.val (.ref a1), .val (.int p1), .val (.long q1), .second, .val (.long q2), .second, .val (.int p3), .val (.long (own_bit p1)), .second, .val (.int (0 : Int32)), .val (.int (1 : Int32)), .unset] [(.long u_outOfOrder), (.ref a1)])) t := fun t k => by
      refine XS.lconst X205.here hx rfl (hb hby d3_66) ?_
      refine XS.ladd X205.here hx rfl (hb hby d3_67) rfl ?_
      exact k
    refine WP.st bk206 ?_
    clear bk206
    obtain ⟨T207, h207, X207, e207, W207, st207⟩ := putF X205 hx hZ hown (host := "") (Or.inl (hw _ (List.mem_of_getElem? (i := 43) rfl))) Via.refl e205 F_a1_outOfOrder E_a1 (Or.inl (hw _ (List.mem_of_getElem? (i := 44) rfl))) (hw _ (List.mem_of_getElem? (i := 1) rfl)) (ty := .long) (by decide) rfl rfl (g := (mkF m 68 #[.val (.ref a1), .val (.int p1), .val (.long q1), .second, .val (.long q2), .second, .val (.int p3), .val (.long (own_bit p1)), .second, .val (.int (0 : Int32)), .val (.int (1 : Int32)), .unset] [(.long (u_outOfOrder + (1 : Int64))), (.ref a1)])) rfl rfl (hb hby d3_68)
    refine WP.st st207 ?_
    clear st207
    replace E_a1 := E_a1.wr W207
    replace F_a1_highestSequence := F_a1_highestSequence.other W207 (Or.inr (sn_32 hw))
    replace F_a1_messages := F_a1_messages.other W207 (Or.inr (sn_33 hw))
    replace F_a1_delivered := F_a1_delivered.other W207 (Or.inr (sn_34 hw))
    replace F_a1_late := F_a1_late.other W207 (Or.inr (sn_35 hw))
    replace F_a1_outOfOrder := F_a1_outOfOrder.same W207
    replace F_a1_duplicated := F_a1_duplicated.other W207 (Or.inr (sn_36 hw))
    replace F_a1_lastDeliveryNanos := F_a1_lastDeliveryNanos.other W207 (Or.inr (sn_37 hw))
    replace F_a1_seen := F_a1_seen.other W207 (Or.inr (sn_38 hw))
    replace F_a1_latenciesMicros := F_a1_latenciesMicros.other W207 (Or.inr (sn_39 hw))
    replace V_tl := V_tl.other W207 (Ne.symm ne_a1_tl)
    replace V_ts := V_ts.other W207 (Ne.symm ne_a1_ts)
    replace Z0 := Nat.le_trans Z0 (Keep.of_wr W207).1
    replace KP := KP.wr W207 (Or.inl (List.mem_of_getElem? (i := 0) rfl))
    replace NF := Fr.snoc X207 NF g_a1
    clear W207
    show WP p.tables e below _ T207 (mkF m 71 #[.val (.ref a1), .val (.int p1), .val (.long q1), .second, .val (.long q2), .second, .val (.int p3), .val (.long (own_bit p1)), .second, .val (.int (0 : Int32)), .val (.int (1 : Int32)), .unset] [])
    have bk208 : ∀ t, Steps p.tables e below (T207.setTop (mkF m 80 #[.val (.ref a1), .val (.int p1), .val (.long q1), .second, .val (.long q2), .second, .val (.int p3), .val (.long (own_bit p1)), .second, .val (.int (0 : Int32)), .val (.int (1 : Int32)), .unset] [(.ref a1)])) t → Steps p.tables e below (T207.setTop (mkF m 71 #[.val (.ref a1), .val (.int p1), .val (.long q1), .second, .val (.long q2), .second, .val (.int p3), .val (.long (own_bit p1)), .second, .val (.int (0 : Int32)), .val (.int (1 : Int32)), .unset] [])) t := fun t k => by
      refine XS.goto X207.here hx rfl (pc0 := 71) (pc' := 79) rfl (hb hby d3_71) (by decide) (by decide) ?_
      refine XS.aloadN X207.here hx rfl (hb hby d3_79) rfl rfl ?_
      exact k
    refine WP.st bk208 ?_
    clear bk208
    obtain ⟨T209, X209, e209, st209⟩ := getF X207 hx hZ hown (host := "") (Or.inl (hw _ (List.mem_of_getElem? (i := 24) rfl))) Via.refl e207 F_a1_delivered (g := (mkF m 80 #[.val (.ref a1), .val (.int p1), .val (.long q1), .second, .val (.long q2), .second, .val (.int p3), .val (.long (own_bit p1)), .second, .val (.int (0 : Int32)), .val (.int (1 : Int32)), .unset] [(.ref a1)])) rfl rfl (hb hby d3_80)
    refine WP.st st209 ?_
    clear st209
    show WP p.tables e below _ T209 (mkF m 83 #[.val (.ref a1), .val (.int p1), .val (.long q1), .second, .val (.long q2), .second, .val (.int p3), .val (.long (own_bit p1)), .second, .val (.int (0 : Int32)), .val (.int (1 : Int32)), .unset] [(.long u_delivered)])
    have bk210 : ∀ t, Steps p.tables e below (T209.setTop (mkF m 84 #[.val (.ref a1), .val (.int p1), .val (.long q1), .second, .val (.long q2), .second, .val (.int p3), .val (.long (own_bit p1)), .second, .val (.int (0 : Int32)), .val (.int (1 : Int32)), .unset] [(.ref a1), (.long u_delivered)])) t → Steps p.tables e below (T209.setTop (mkF m 83 #[.val (.ref a1), .val (.int p1), .val (.long q1), .second, .val (.long q2), .second, .val (.int p3), .val (.long (own_bit p1)), .second, .val (.int (0 : Int32)), .val (.int (1 : Int32)), .unset] [(.long u_delivered)])) t := fun t k => by
      refine XS.aloadN X209.here hx rfl (hb hby d3_83) rfl rfl ?_
      exact k
    refine WP.st bk210 ?_
    clear bk210
    obtain ⟨T211, X211, e211, st211⟩ := getF X209 hx hZ hown (host := "") (Or.inl (hw _ (List.mem_of_getElem? (i := 26) rfl))) Via.refl e209 F_a1_late (g := (mkF m 84 #[.val (.ref a1), .val (.int p1), .val (.long q1), .second, .val (.long q2), .second, .val (.int p3), .val (.long (own_bit p1)), .second, .val (.int (0 : Int32)), .val (.int (1 : Int32)), .unset] [(.ref a1), (.long u_delivered)])) rfl rfl (hb hby d3_84)
    refine WP.st st211 ?_
    clear st211
    show WP p.tables e below _ T211 (mkF m 87 #[.val (.ref a1), .val (.int p1), .val (.long q1), .second, .val (.long q2), .second, .val (.int p3), .val (.long (own_bit p1)), .second, .val (.int (0 : Int32)), .val (.int (1 : Int32)), .unset] [(.long u_late), (.long u_delivered)])
    have bk212 : ∀ t, Steps p.tables e below (T211.setTop (mkF m 89 #[.val (.ref a1), .val (.int p1), .val (.long q1), .second, .val (.long q2), .second, .val (.int p3), .val (.long (own_bit p1)), .second, .val (.int (0 : Int32)), .val (.int (1 : Int32)), .unset] [(.int ((u_delivered + u_late).toInt32))])) t → Steps p.tables e below (T211.setTop (mkF m 87 #[.val (.ref a1), .val (.int p1), .val (.long q1), .second, .val (.long q2), .second, .val (.int p3), .val (.long (own_bit p1)), .second, .val (.int (0 : Int32)), .val (.int (1 : Int32)), .unset] [(.long u_late), (.long u_delivered)])) t := fun t k => by
      refine XS.ladd X211.here hx rfl (hb hby d3_87) rfl ?_
      refine XS.l2i X211.here hx rfl (hb hby d3_88) rfl ?_
      exact k
    refine WP.st bk212 ?_
    clear bk212
    rw [show ((u_delivered + u_late).toInt32) = (1 : Int32) from by rw [hde]; decide]
    show WP p.tables e below _ T211 (mkF m 89 #[.val (.ref a1), .val (.int p1), .val (.long q1), .second, .val (.long q2), .second, .val (.int p3), .val (.long (own_bit p1)), .second, .val (.int (0 : Int32)), .val (.int (1 : Int32)), .unset] [(.int (1 : Int32))])
    have bk213 : ∀ t, Steps p.tables e below (T211.setTop (mkF m 94 #[.val (.ref a1), .val (.int p1), .val (.long q1), .second, .val (.long q2), .second, .val (.int p3), .val (.long (own_bit p1)), .second, .val (.int (0 : Int32)), .val (.int (1 : Int32)), .val (.int (1 : Int32))] [(.ref a1), (.int (1 : Int32))])) t → Steps p.tables e below (T211.setTop (mkF m 89 #[.val (.ref a1), .val (.int p1), .val (.long q1), .second, .val (.long q2), .second, .val (.int p3), .val (.long (own_bit p1)), .second, .val (.int (0 : Int32)), .val (.int (1 : Int32)), .unset] [(.int (1 : Int32))])) t := fun t k => by
      refine XS.istore X211.here hx rfl (hb hby d3_89) rfl (l' := #[.val (.ref a1), .val (.int p1), .val (.long q1), .second, .val (.long q2), .second, .val (.int p3), .val (.long (own_bit p1)), .second, .val (.int (0 : Int32)), .val (.int (1 : Int32)), .val (.int (1 : Int32))]) rfl ?_
      refine XS.iload X211.here hx rfl (hb hby d3_91) rfl ?_
      refine XS.aloadN X211.here hx rfl (hb hby d3_93) rfl rfl ?_
      exact k
    refine WP.st bk213 ?_
    clear bk213
    obtain ⟨T214, X214, e214, st214⟩ := getF X211 hx hZ hown (host := "") (Or.inl (hw _ (List.mem_of_getElem? (i := 12) rfl))) Via.refl e211 F_a1_latenciesMicros (g := (mkF m 94 #[.val (.ref a1), .val (.int p1), .val (.long q1), .second, .val (.long q2), .second, .val (.int p3), .val (.long (own_bit p1)), .second, .val (.int (0 : Int32)), .val (.int (1 : Int32)), .val (.int (1 : Int32))] [(.ref a1), (.int (1 : Int32))])) rfl rfl (hb hby d3_94)
    refine WP.st st214 ?_
    clear st214
    show WP p.tables e below _ T214 (mkF m 97 #[.val (.ref a1), .val (.int p1), .val (.long q1), .second, .val (.long q2), .second, .val (.int p3), .val (.long (own_bit p1)), .second, .val (.int (0 : Int32)), .val (.int (1 : Int32)), .val (.int (1 : Int32))] [(.ref tl), (.int (1 : Int32))])
    obtain ⟨cl215, Ar215, len215⟩ := V_tl.len
    have bk216 : ∀ t, Steps p.tables e below (T214.setTop (mkF m 120 #[.val (.ref a1), .val (.int p1), .val (.long q1), .second, .val (.long q2), .second, .val (.int p3), .val (.long (own_bit p1)), .second, .val (.int (0 : Int32)), .val (.int (1 : Int32)), .val (.int (1 : Int32))] [(.ref a1)])) t → Steps p.tables e below (T214.setTop (mkF m 97 #[.val (.ref a1), .val (.int p1), .val (.long q1), .second, .val (.long q2), .second, .val (.int p3), .val (.long (own_bit p1)), .second, .val (.int (0 : Int32)), .val (.int (1 : Int32)), .val (.int (1 : Int32))] [(.ref tl), (.int (1 : Int32))])) t := fun t k => by
      refine X214.arraylength hx (by rw [e214]; exact Ar215.1) (State.isArrayOf_alike hZ.alike Ar215.2.1) (g := (mkF m 97 #[.val (.ref a1), .val (.int p1), .val (.long q1), .second, .val (.long q2), .second, .val (.int p3), .val (.long (own_bit p1)), .second, .val (.int (0 : Int32)), .val (.int (1 : Int32)), .val (.int (1 : Int32))] [(.ref tl), (.int (1 : Int32))])) rfl rfl (hb hby d3_97) _ ?_
      rw [len215]
      refine XS.icmpYes X214.here hx rfl (pc0 := 98) (pc' := 119) rfl (hb hby d3_98) rfl (feq (by decide : ¬ ((1 : Int32) = (16 : Int32)))).2 (by decide) (by decide) ?_
      refine XS.aloadN X214.here hx rfl (hb hby d3_119) rfl rfl ?_
      exact k
    refine WP.st bk216 ?_
    clear bk216
    obtain ⟨T217, X217, e217, st217⟩ := getF X214 hx hZ hown (host := "") (Or.inl (hw _ (List.mem_of_getElem? (i := 12) rfl))) Via.refl e214 F_a1_latenciesMicros (g := (mkF m 120 #[.val (.ref a1), .val (.int p1), .val (.long q1), .second, .val (.long q2), .second, .val (.int p3), .val (.long (own_bit p1)), .second, .val (.int (0 : Int32)), .val (.int (1 : Int32)), .val (.int (1 : Int32))] [(.ref a1)])) rfl rfl (hb hby d3_120)
    refine WP.st st217 ?_
    clear st217
    show WP p.tables e below _ T217 (mkF m 123 #[.val (.ref a1), .val (.int p1), .val (.long q1), .second, .val (.long q2), .second, .val (.int p3), .val (.long (own_bit p1)), .second, .val (.int (0 : Int32)), .val (.int (1 : Int32)), .val (.int (1 : Int32))] [(.ref tl)])
    have bk218 : ∀ t, Steps p.tables e below (T217.setTop (mkF m 134 #[.val (.ref a1), .val (.int p1), .val (.long q1), .second, .val (.long q2), .second, .val (.int p3), .val (.long (own_bit p1)), .second, .val (.int (0 : Int32)), .val (.int (1 : Int32)), .val (.int (1 : Int32))] [(.long (q1 / (1000 : Int64))), (.long (0 : Int64)), (.long (2147483647 : Int64)), (.int (1 : Int32)), (.ref tl)])) t → Steps p.tables e below (T217.setTop (mkF m 123 #[.val (.ref a1), .val (.int p1), .val (.long q1), .second, .val (.long q2), .second, .val (.int p3), .val (.long (own_bit p1)), .second, .val (.int (0 : Int32)), .val (.int (1 : Int32)), .val (.int (1 : Int32))] [(.ref tl)])) t := fun t k => by
      refine XS.iload X217.here hx rfl (hb hby d3_123) rfl ?_
      refine X217.ldc2Long hx hown (mvT hZ (hw _ (List.mem_of_getElem? (i := 28) rfl))) (g := (mkF m 125 #[.val (.ref a1), .val (.int p1), .val (.long q1), .second, .val (.long q2), .second, .val (.int p3), .val (.long (own_bit p1)), .second, .val (.int (0 : Int32)), .val (.int (1 : Int32)), .val (.int (1 : Int32))] [(.int (1 : Int32)), (.ref tl)])) rfl (hb hby d3_125) _ ?_
      refine XS.lconst X217.here hx rfl (hb hby d3_128) ?_
      refine XS.lloadN X217.here hx rfl (hb hby d3_129) rfl ?_
      show Steps p.tables e below (T217.setTop (mkF m 130 #[.val (.ref a1), .val (.int p1), .val (.long q1), .second, .val (.long q2), .second, .val (.int p3), .val (.long (own_bit p1)), .second, .val (.int (0 : Int32)), .val (.int (1 : Int32)), .val (.int (1 : Int32))] [(.long q1), (.long (0 : Int64)), (.long (2147483647 : Int64)), (.int (1 : Int32)), (.ref tl)])) t
      refine X217.ldc2Long hx hown (mvT hZ (hw _ (List.mem_of_getElem? (i := 29) rfl))) (g := (mkF m 130 #[.val (.ref a1), .val (.int p1), .val (.long q1), .second, .val (.long q2), .second, .val (.int p3), .val (.long (own_bit p1)), .second, .val (.int (0 : Int32)), .val (.int (1 : Int32)), .val (.int (1 : Int32))] [(.long q1), (.long (0 : Int64)), (.long (2147483647 : Int64)), (.int (1 : Int32)), (.ref tl)])) rfl (hb hby d3_130) _ ?_
      refine XS.ldiv X217.here hx rfl (hb hby d3_133) rfl (by decide) ?_
      exact k
    refine WP.st bk218 ?_
    clear bk218
    obtain ⟨_, _, ⟨T219, L219, k219, n219⟩, -, X219, ⟨Lc219, hQ219, l219, y219, z219⟩, st219⟩ := Jvm.LawKit.callS X217 hx (y := (⟨"java/lang/Math", "max", "(JJ)J"⟩ : MethodName)) hown (mvT hZ (hw _ (List.mem_of_getElem? (i := 30) rfl))) (mvT hZ (hw _ (List.mem_of_getElem? (i := 31) rfl))) (mvT hZ (hw _ (List.mem_of_getElem? (i := 32) rfl))) (mvT hZ (hw _ (List.mem_of_getElem? (i := 33) rfl))) (by decide) (backOf (W := 4) (rm4 l Z a0 hw [] (0 : Int64) (q1 / (1000 : Int64)) h207 n0 Z0 ) hZ (hw _ (List.mem_of_getElem? (i := 33) rfl)) (hw _ (List.mem_of_getElem? (i := 32) rfl)) (by decide) (by decide)) (g := (mkF m 134 #[.val (.ref a1), .val (.int p1), .val (.long q1), .second, .val (.long q2), .second, .val (.int p3), .val (.long (own_bit p1)), .second, .val (.int (0 : Int32)), .val (.int (1 : Int32)), .val (.int (1 : Int32))] [(.long (q1 / (1000 : Int64))), (.long (0 : Int64)), (.long (2147483647 : Int64)), (.int (1 : Int32)), (.ref tl)])) rfl (by rw [hml]; rfl) (argsL := [(.long (0 : Int64)), (.long (q1 / (1000 : Int64)))]) (rest := [(.long (2147483647 : Int64)), (.int (1 : Int32)), (.ref tl)]) (lenOf pd_2 rfl) rfl (by show 2 * 0 + _ ≤ _; exact Nat.le_of_eq rfl) (hb hby d3_134) (fun _ _ => ⟨rfl, e217, (by decide : 0 + 0 ≤ _), (by decide : 0 + 0 ≤ _)⟩)
    dsimp only [Pt.U, Pt.locs, Pt.cells, Pt.slots] at X219 l219 y219 z219 st219 hQ219
    subst l219 y219 z219
    obtain ⟨rfl, Nq219, Kq219⟩ := hQ219
    replace NF := Fr.app NF Nq219
    clear Nq219
    refine WP.st st219 ?_
    clear st219
    replace Kq219 := Kq219.trans (rfl : h207 = h207)
    show WP p.tables e below _ T219 (mkF m 137 #[.val (.ref a1), .val (.int p1), .val (.long q1), .second, .val (.long q2), .second, .val (.int p3), .val (.long (own_bit p1)), .second, .val (.int (0 : Int32)), .val (.int (1 : Int32)), .val (.int (1 : Int32))] [(.long (own_maxl (0 : Int64) (q1 / (1000 : Int64)))), (.long (2147483647 : Int64)), (.int (1 : Int32)), (.ref tl)])
    obtain ⟨_, _, ⟨T220, L220, k220, n220⟩, -, X220, ⟨Lc220, hQ220, l220, y220, z220⟩, st220⟩ := Jvm.LawKit.callS X219 hx (y := (⟨"java/lang/Math", "min", "(JJ)J"⟩ : MethodName)) hown (mvT hZ (hw _ (List.mem_of_getElem? (i := 34) rfl))) (mvT hZ (hw _ (List.mem_of_getElem? (i := 35) rfl))) (mvT hZ (hw _ (List.mem_of_getElem? (i := 32) rfl))) (mvT hZ (hw _ (List.mem_of_getElem? (i := 36) rfl))) (by decide) (backOf (W := 2) (rm5 l Z a0 hw [] (2147483647 : Int64) (own_maxl (0 : Int64) (q1 / (1000 : Int64))) h207 n0 Z0 ) hZ (hw _ (List.mem_of_getElem? (i := 36) rfl)) (hw _ (List.mem_of_getElem? (i := 32) rfl)) (by decide) (by decide)) (g := (mkF m 137 #[.val (.ref a1), .val (.int p1), .val (.long q1), .second, .val (.long q2), .second, .val (.int p3), .val (.long (own_bit p1)), .second, .val (.int (0 : Int32)), .val (.int (1 : Int32)), .val (.int (1 : Int32))] [(.long (own_maxl (0 : Int64) (q1 / (1000 : Int64)))), (.long (2147483647 : Int64)), (.int (1 : Int32)), (.ref tl)])) rfl (by rw [hml]; rfl) (argsL := [(.long (2147483647 : Int64)), (.long (own_maxl (0 : Int64) (q1 / (1000 : Int64))))]) (rest := [(.int (1 : Int32)), (.ref tl)]) (lenOf pd_2 rfl) rfl (by show 2 * 0 + _ ≤ _; exact Nat.le_of_eq rfl) (hb hby d3_137) (fun _ _ => ⟨rfl, Kq219, (by decide : 0 + 0 ≤ _), (by decide : 0 + 0 ≤ _)⟩)
    dsimp only [Pt.U, Pt.locs, Pt.cells, Pt.slots] at X220 l220 y220 z220 st220 hQ220
    subst l220 y220 z220
    obtain ⟨rfl, Nq220, Kq220⟩ := hQ220
    replace NF := Fr.app NF Nq220
    clear Nq220
    refine WP.st st220 ?_
    clear st220
    replace Kq220 := Kq220.trans (rfl : h207 = h207)
    show WP p.tables e below _ T220 (mkF m 140 #[.val (.ref a1), .val (.int p1), .val (.long q1), .second, .val (.long q2), .second, .val (.int p3), .val (.long (own_bit p1)), .second, .val (.int (0 : Int32)), .val (.int (1 : Int32)), .val (.int (1 : Int32))] [(.long (own_minl (2147483647 : Int64) (own_maxl (0 : Int64) (q1 / (1000 : Int64))))), (.int (1 : Int32)), (.ref tl)])
    have bk221 : ∀ t, Steps p.tables e below (T220.setTop (mkF m 141 #[.val (.ref a1), .val (.int p1), .val (.long q1), .second, .val (.long q2), .second, .val (.int p3), .val (.long (own_bit p1)), .second, .val (.int (0 : Int32)), .val (.int (1 : Int32)), .val (.int (1 : Int32))] [(.int ((own_minl (2147483647 : Int64) (own_maxl (0 : Int64) (q1 / (1000 : Int64)))).toInt32)), (.int (1 : Int32)), (.ref tl)])) t → Steps p.tables e below (T220.setTop (mkF m 140 #[.val (.ref a1), .val (.int p1), .val (.long q1), .second, .val (.long q2), .second, .val (.int p3), .val (.long (own_bit p1)), .second, .val (.int (0 : Int32)), .val (.int (1 : Int32)), .val (.int (1 : Int32))] [(.long (own_minl (2147483647 : Int64) (own_maxl (0 : Int64) (q1 / (1000 : Int64))))), (.int (1 : Int32)), (.ref tl)])) t := fun t k => by
      refine XS.l2i X220.here hx rfl (hb hby d3_140) rfl ?_
      exact k
    refine WP.st bk221 ?_
    clear bk221
    rw [show ((own_minl (2147483647 : Int64) (own_maxl (0 : Int64) (q1 / (1000 : Int64)))).toInt32) = (own_lat q1) from rfl]
    show WP p.tables e below _ T220 (mkF m 141 #[.val (.ref a1), .val (.int p1), .val (.long q1), .second, .val (.long q2), .second, .val (.int p3), .val (.long (own_bit p1)), .second, .val (.int (0 : Int32)), .val (.int (1 : Int32)), .val (.int (1 : Int32))] [(.int (own_lat q1)), (.int (1 : Int32)), (.ref tl)])
    obtain ⟨cl222, Ar222, q222, S222, N222, H222, G222⟩ := V_tl
    have hin222 : ¬ ((1 : Int32) < 0 ∨ cl222.slots.size ≤ ((1 : Int32)).toNatClampNeg) := inb_of S222 ⟨by decide, by decide⟩
    obtain ⟨T223, h223, X223, e223, W223, st223⟩ := stI X220 hx hZ Kq220 Ar222 (j := (1 : Int32)) hin222 (g := (mkF m 141 #[.val (.ref a1), .val (.int p1), .val (.long q1), .second, .val (.long q2), .second, .val (.int p3), .val (.long (own_bit p1)), .second, .val (.int (0 : Int32)), .val (.int (1 : Int32)), .val (.int (1 : Int32))] [(.int (own_lat q1)), (.int (1 : Int32)), (.ref tl)])) rfl rfl (hb hby d3_141)
    refine WP.st st223 ?_
    clear st223
    have Vn : Arv Z h223 tl kl .int (16 : Int32) [v0, (.int (own_lat q1)), v2, v3, v4, v5, v6, v7, v8, v9, v10, v11, v12, v13, v14, v15] (.int (0 : Int32)) := Arv.set Ar222 q222 S222 N222 H222 G222 rfl W223 1 rfl (Nat.le_of_ble_eq_true rfl)
    replace E_a1 := E_a1.wr W223
    replace F_a1_highestSequence := F_a1_highestSequence.other W223 (Or.inl ne_a1_tl)
    replace F_a1_messages := F_a1_messages.other W223 (Or.inl ne_a1_tl)
    replace F_a1_delivered := F_a1_delivered.other W223 (Or.inl ne_a1_tl)
    replace F_a1_late := F_a1_late.other W223 (Or.inl ne_a1_tl)
    replace F_a1_outOfOrder := F_a1_outOfOrder.other W223 (Or.inl ne_a1_tl)
    replace F_a1_duplicated := F_a1_duplicated.other W223 (Or.inl ne_a1_tl)
    replace F_a1_lastDeliveryNanos := F_a1_lastDeliveryNanos.other W223 (Or.inl ne_a1_tl)
    replace F_a1_seen := F_a1_seen.other W223 (Or.inl ne_a1_tl)
    replace F_a1_latenciesMicros := F_a1_latenciesMicros.other W223 (Or.inl ne_a1_tl)
    replace V_ts := V_ts.other W223 (Ne.symm ne_tl_ts)
    replace Z0 := Nat.le_trans Z0 (Keep.of_wr W223).1
    replace KP := KP.wr W223 (Or.inl (List.mem_of_getElem? (i := 2) rfl))
    replace V_tl := Vn
    replace NF := Fr.snoc X223 NF g_tl
    clear W223 hin222 q222 S222 N222 H222 G222 Ar222
    show WP p.tables e below _ T223 (mkF m 142 #[.val (.ref a1), .val (.int p1), .val (.long q1), .second, .val (.long q2), .second, .val (.int p3), .val (.long (own_bit p1)), .second, .val (.int (0 : Int32)), .val (.int (1 : Int32)), .val (.int (1 : Int32))] [])
    have bk225 : ∀ t, Steps p.tables e below (T223.setTop (mkF m 144 #[.val (.ref a1), .val (.int p1), .val (.long q1), .second, .val (.long q2), .second, .val (.int p3), .val (.long (own_bit p1)), .second, .val (.int (0 : Int32)), .val (.int (1 : Int32)), .val (.int (1 : Int32))] [(.int p3)])) t → Steps p.tables e below (T223.setTop (mkF m 142 #[.val (.ref a1), .val (.int p1), .val (.long q1), .second, .val (.long q2), .second, .val (.int p3), .val (.long (own_bit p1)), .second, .val (.int (0 : Int32)), .val (.int (1 : Int32)), .val (.int (1 : Int32))] [])) t := fun t k => by
      refine XS.iload X223.here hx rfl (hb hby d3_142) rfl ?_
      exact k
    refine WP.st bk225 ?_
    clear bk225
    by_cases hc224 : p3 = (0 : Int32)
    · skip
      have bk226 : ∀ t, Steps p.tables e below (T223.setTop (mkF m 163 #[.val (.ref a1), .val (.int p1), .val (.long q1), .second, .val (.long q2), .second, .val (.int p3), .val (.long (own_bit p1)), .second, .val (.int (0 : Int32)), .val (.int (1 : Int32)), .val (.int (1 : Int32))] [(.long q2), (.ref a1)])) t → Steps p.tables e below (T223.setTop (mkF m 144 #[.val (.ref a1), .val (.int p1), .val (.long q1), .second, .val (.long q2), .second, .val (.int p3), .val (.long (own_bit p1)), .second, .val (.int (0 : Int32)), .val (.int (1 : Int32)), .val (.int (1 : Int32))] [(.int p3)])) t := fun t k => by
        refine XS.ifYes X223.here hx rfl (pc0 := 144) (pc' := 160) rfl (hb hby d3_144) rfl ((if0 _ _).trans (teq hc224).1) (by decide) (by decide) ?_
        refine XS.aloadN X223.here hx rfl (hb hby d3_160) rfl rfl ?_
        refine XS.lload X223.here hx rfl (hb hby d3_161) rfl ?_
        exact k
      refine WP.st bk226 ?_
      clear bk226
      obtain ⟨T227, h227, X227, e227, W227, st227⟩ := putF X223 hx hZ hown (host := "") (Or.inl (hw _ (List.mem_of_getElem? (i := 65) rfl))) Via.refl e223 F_a1_lastDeliveryNanos E_a1 (Or.inl (hw _ (List.mem_of_getElem? (i := 66) rfl))) (hw _ (List.mem_of_getElem? (i := 1) rfl)) (ty := .long) (by decide) rfl rfl (g := (mkF m 163 #[.val (.ref a1), .val (.int p1), .val (.long q1), .second, .val (.long q2), .second, .val (.int p3), .val (.long (own_bit p1)), .second, .val (.int (0 : Int32)), .val (.int (1 : Int32)), .val (.int (1 : Int32))] [(.long q2), (.ref a1)])) rfl rfl (hb hby d3_163)
      refine WP.st st227 ?_
      clear st227
      replace E_a1 := E_a1.wr W227
      replace F_a1_highestSequence := F_a1_highestSequence.other W227 (Or.inr (sn_40 hw))
      replace F_a1_messages := F_a1_messages.other W227 (Or.inr (sn_41 hw))
      replace F_a1_delivered := F_a1_delivered.other W227 (Or.inr (sn_42 hw))
      replace F_a1_late := F_a1_late.other W227 (Or.inr (sn_43 hw))
      replace F_a1_outOfOrder := F_a1_outOfOrder.other W227 (Or.inr (sn_44 hw))
      replace F_a1_duplicated := F_a1_duplicated.other W227 (Or.inr (sn_45 hw))
      replace F_a1_lastDeliveryNanos := F_a1_lastDeliveryNanos.same W227
      replace F_a1_seen := F_a1_seen.other W227 (Or.inr (sn_46 hw))
      replace F_a1_latenciesMicros := F_a1_latenciesMicros.other W227 (Or.inr (sn_47 hw))
      replace V_ts := V_ts.other W227 (Ne.symm ne_a1_ts)
      replace V_tl := V_tl.other W227 (Ne.symm ne_a1_tl)
      replace Z0 := Nat.le_trans Z0 (Keep.of_wr W227).1
      replace KP := KP.wr W227 (Or.inl (List.mem_of_getElem? (i := 0) rfl))
      replace NF := Fr.snoc X227 NF g_a1
      clear W227
      show WP p.tables e below _ T227 (mkF m 166 #[.val (.ref a1), .val (.int p1), .val (.long q1), .second, .val (.long q2), .second, .val (.int p3), .val (.long (own_bit p1)), .second, .val (.int (0 : Int32)), .val (.int (1 : Int32)), .val (.int (1 : Int32))] [])
      have bk228 : ∀ t, Steps p.tables e below (T227.setTop (mkF m 168 #[.val (.ref a1), .val (.int p1), .val (.long q1), .second, .val (.long q2), .second, .val (.int p3), .val (.long (own_bit p1)), .second, .val (.int (0 : Int32)), .val (.int (1 : Int32)), .val (.int (1 : Int32))] [(.ref a1), (.ref a1)])) t → Steps p.tables e below (T227.setTop (mkF m 166 #[.val (.ref a1), .val (.int p1), .val (.long q1), .second, .val (.long q2), .second, .val (.int p3), .val (.long (own_bit p1)), .second, .val (.int (0 : Int32)), .val (.int (1 : Int32)), .val (.int (1 : Int32))] [])) t := fun t k => by
        refine XS.aloadN X227.here hx rfl (hb hby d3_166) rfl rfl ?_
        refine XS.aloadN X227.here hx rfl (hb hby d3_167) rfl rfl ?_
        exact k
      refine WP.st bk228 ?_
      clear bk228
      obtain ⟨T229, X229, e229, st229⟩ := getF X227 hx hZ hown (host := "") (Or.inl (hw _ (List.mem_of_getElem? (i := 24) rfl))) Via.refl e227 F_a1_delivered (g := (mkF m 168 #[.val (.ref a1), .val (.int p1), .val (.long q1), .second, .val (.long q2), .second, .val (.int p3), .val (.long (own_bit p1)), .second, .val (.int (0 : Int32)), .val (.int (1 : Int32)), .val (.int (1 : Int32))] [(.ref a1), (.ref a1)])) rfl rfl (hb hby d3_168)
      refine WP.st st229 ?_
      clear st229
      show WP p.tables e below _ T229 (mkF m 171 #[.val (.ref a1), .val (.int p1), .val (.long q1), .second, .val (.long q2), .second, .val (.int p3), .val (.long (own_bit p1)), .second, .val (.int (0 : Int32)), .val (.int (1 : Int32)), .val (.int (1 : Int32))] [(.long u_delivered), (.ref a1)])
      have bk230 : ∀ t, Steps p.tables e below (T229.setTop (mkF m 173 #[.val (.ref a1), .val (.int p1), .val (.long q1), .second, .val (.long q2), .second, .val (.int p3), .val (.long (own_bit p1)), .second, .val (.int (0 : Int32)), .val (.int (1 : Int32)), .val (.int (1 : Int32))] [(.long (u_delivered + (1 : Int64))), (.ref a1)])) t → Steps p.tables e below (T229.setTop (mkF m 171 #[.val (.ref a1), .val (.int p1), .val (.long q1), .second, .val (.long q2), .second, .val (.int p3), .val (.long (own_bit p1)), .second, .val (.int (0 : Int32)), .val (.int (1 : Int32)), .val (.int (1 : Int32))] [(.long u_delivered), (.ref a1)])) t := fun t k => by
        refine XS.lconst X229.here hx rfl (hb hby d3_171) ?_
        refine XS.ladd X229.here hx rfl (hb hby d3_172) rfl ?_
        exact k
      refine WP.st bk230 ?_
      clear bk230
      obtain ⟨T231, h231, X231, e231, W231, st231⟩ := putF X229 hx hZ hown (host := "") (Or.inl (hw _ (List.mem_of_getElem? (i := 24) rfl))) Via.refl e229 F_a1_delivered E_a1 (Or.inl (hw _ (List.mem_of_getElem? (i := 25) rfl))) (hw _ (List.mem_of_getElem? (i := 1) rfl)) (ty := .long) (by decide) rfl rfl (g := (mkF m 173 #[.val (.ref a1), .val (.int p1), .val (.long q1), .second, .val (.long q2), .second, .val (.int p3), .val (.long (own_bit p1)), .second, .val (.int (0 : Int32)), .val (.int (1 : Int32)), .val (.int (1 : Int32))] [(.long (u_delivered + (1 : Int64))), (.ref a1)])) rfl rfl (hb hby d3_173)
      refine WP.st st231 ?_
      clear st231
      replace E_a1 := E_a1.wr W231
      replace F_a1_highestSequence := F_a1_highestSequence.other W231 (Or.inr (sn_48 hw))
      replace F_a1_messages := F_a1_messages.other W231 (Or.inr (sn_49 hw))
      replace F_a1_delivered := F_a1_delivered.same W231
      replace F_a1_late := F_a1_late.other W231 (Or.inr (sn_50 hw))
      replace F_a1_outOfOrder := F_a1_outOfOrder.other W231 (Or.inr (sn_51 hw))
      replace F_a1_duplicated := F_a1_duplicated.other W231 (Or.inr (sn_52 hw))
      replace F_a1_lastDeliveryNanos := F_a1_lastDeliveryNanos.other W231 (Or.inr (sn_53 hw))
      replace F_a1_seen := F_a1_seen.other W231 (Or.inr (sn_54 hw))
      replace F_a1_latenciesMicros := F_a1_latenciesMicros.other W231 (Or.inr (sn_55 hw))
      replace V_ts := V_ts.other W231 (Ne.symm ne_a1_ts)
      replace V_tl := V_tl.other W231 (Ne.symm ne_a1_tl)
      replace Z0 := Nat.le_trans Z0 (Keep.of_wr W231).1
      replace KP := KP.wr W231 (Or.inl (List.mem_of_getElem? (i := 0) rfl))
      replace NF := Fr.snoc X231 NF g_a1
      clear W231
      show WP p.tables e below _ T231 (mkF m 176 #[.val (.ref a1), .val (.int p1), .val (.long q1), .second, .val (.long q2), .second, .val (.int p3), .val (.long (own_bit p1)), .second, .val (.int (0 : Int32)), .val (.int (1 : Int32)), .val (.int (1 : Int32))] [])
      have bk232 : ∀ t, Steps p.tables e below (T231.setTop (mkF m 191 #[.val (.ref a1), .val (.int p1), .val (.long q1), .second, .val (.long q2), .second, .val (.int p3), .val (.long (own_bit p1)), .second, .val (.int (0 : Int32)), .val (.int (1 : Int32)), .val (.int (1 : Int32))] [(.int (1 : Int32))])) t → Steps p.tables e below (T231.setTop (mkF m 176 #[.val (.ref a1), .val (.int p1), .val (.long q1), .second, .val (.long q2), .second, .val (.int p3), .val (.long (own_bit p1)), .second, .val (.int (0 : Int32)), .val (.int (1 : Int32)), .val (.int (1 : Int32))] [])) t := fun t k => by
        refine XS.goto X231.here hx rfl (pc0 := 176) (pc' := 189) rfl (hb hby d3_176) (by decide) (by decide) ?_
        refine XS.iload X231.here hx rfl (hb hby d3_189) rfl ?_
        exact k
      refine WP.st bk232 ?_
      clear bk232
      subst hG
      obtain ⟨fs, hr, hrun, hended, hW, hsame⟩ := X231.leave (v := some (.int (1 : Int32))) (fun h => by rw [Bd.returns] at h; cases h)
      refine WP.fin ⟨_, _, ?_, hrun, hended, _, _, rfl, ?_, ⟨_, rfl⟩, hW, hsame.mono (by decide) (by decide)⟩
      · exact retN X231 hx (t := .boolean) Bd.returns (by simp) (hb hby d3_191) hr
      · show Q3f1 Z a1 p1 q1 q2 p3 u_highestSequence u_messages u_delivered u_late u_outOfOrder u_duplicated u_lastDeliveryNanos ts ks tl kl wv v0 v1 v2 v3 v4 v5 v6 v7 v8 v9 v10 v11 v12 v13 v14 v15 h0 n0 _ T231.heap _
        rw [e231]
        exact ⟨(u_delivered + (1 : Int64)), u_late, u_highestSequence, (u_outOfOrder + (1 : Int64)), q2, rfl, NF, KP, F_a1_highestSequence, F_a1_messages, F_a1_delivered, F_a1_late, F_a1_outOfOrder, F_a1_duplicated, F_a1_lastDeliveryNanos, F_a1_seen, F_a1_latenciesMicros, V_ts, V_tl, (by rw [own_d1, hde]; decide)⟩
    · skip
      have bk233 : ∀ t, Steps p.tables e below (T223.setTop (mkF m 149 #[.val (.ref a1), .val (.int p1), .val (.long q1), .second, .val (.long q2), .second, .val (.int p3), .val (.long (own_bit p1)), .second, .val (.int (0 : Int32)), .val (.int (1 : Int32)), .val (.int (1 : Int32))] [(.ref a1), (.ref a1)])) t → Steps p.tables e below (T223.setTop (mkF m 144 #[.val (.ref a1), .val (.int p1), .val (.long q1), .second, .val (.long q2), .second, .val (.int p3), .val (.long (own_bit p1)), .second, .val (.int (0 : Int32)), .val (.int (1 : Int32)), .val (.int (1 : Int32))] [(.int p3)])) t := fun t k => by
        refine XS.ifNo X223.here hx rfl (hb hby d3_144) rfl ((if0 _ _).trans (feq hc224).1) ?_
        refine XS.aloadN X223.here hx rfl (hb hby d3_147) rfl rfl ?_
        refine XS.aloadN X223.here hx rfl (hb hby d3_148) rfl rfl ?_
        exact k
      refine WP.st bk233 ?_
      clear bk233
      obtain ⟨T234, X234, e234, st234⟩ := getF X223 hx hZ hown (host := "") (Or.inl (hw _ (List.mem_of_getElem? (i := 26) rfl))) Via.refl e223 F_a1_late (g := (mkF m 149 #[.val (.ref a1), .val (.int p1), .val (.long q1), .second, .val (.long q2), .second, .val (.int p3), .val (.long (own_bit p1)), .second, .val (.int (0 : Int32)), .val (.int (1 : Int32)), .val (.int (1 : Int32))] [(.ref a1), (.ref a1)])) rfl rfl (hb hby d3_149)
      refine WP.st st234 ?_
      clear st234
      show WP p.tables e below _ T234 (mkF m 152 #[.val (.ref a1), .val (.int p1), .val (.long q1), .second, .val (.long q2), .second, .val (.int p3), .val (.long (own_bit p1)), .second, .val (.int (0 : Int32)), .val (.int (1 : Int32)), .val (.int (1 : Int32))] [(.long u_late), (.ref a1)])
      have bk235 : ∀ t, Steps p.tables e below (T234.setTop (mkF m 154 #[.val (.ref a1), .val (.int p1), .val (.long q1), .second, .val (.long q2), .second, .val (.int p3), .val (.long (own_bit p1)), .second, .val (.int (0 : Int32)), .val (.int (1 : Int32)), .val (.int (1 : Int32))] [(.long (u_late + (1 : Int64))), (.ref a1)])) t → Steps p.tables e below (T234.setTop (mkF m 152 #[.val (.ref a1), .val (.int p1), .val (.long q1), .second, .val (.long q2), .second, .val (.int p3), .val (.long (own_bit p1)), .second, .val (.int (0 : Int32)), .val (.int (1 : Int32)), .val (.int (1 : Int32))] [(.long u_late), (.ref a1)])) t := fun t k => by
        refine XS.lconst X234.here hx rfl (hb hby d3_152) ?_
        refine XS.ladd X234.here hx rfl (hb hby d3_153) rfl ?_
        exact k
      refine WP.st bk235 ?_
      clear bk235
      obtain ⟨T236, h236, X236, e236, W236, st236⟩ := putF X234 hx hZ hown (host := "") (Or.inl (hw _ (List.mem_of_getElem? (i := 26) rfl))) Via.refl e234 F_a1_late E_a1 (Or.inl (hw _ (List.mem_of_getElem? (i := 27) rfl))) (hw _ (List.mem_of_getElem? (i := 1) rfl)) (ty := .long) (by decide) rfl rfl (g := (mkF m 154 #[.val (.ref a1), .val (.int p1), .val (.long q1), .second, .val (.long q2), .second, .val (.int p3), .val (.long (own_bit p1)), .second, .val (.int (0 : Int32)), .val (.int (1 : Int32)), .val (.int (1 : Int32))] [(.long (u_late + (1 : Int64))), (.ref a1)])) rfl rfl (hb hby d3_154)
      refine WP.st st236 ?_
      clear st236
      replace E_a1 := E_a1.wr W236
      replace F_a1_highestSequence := F_a1_highestSequence.other W236 (Or.inr (sn_56 hw))
      replace F_a1_messages := F_a1_messages.other W236 (Or.inr (sn_57 hw))
      replace F_a1_delivered := F_a1_delivered.other W236 (Or.inr (sn_58 hw))
      replace F_a1_late := F_a1_late.same W236
      replace F_a1_outOfOrder := F_a1_outOfOrder.other W236 (Or.inr (sn_59 hw))
      replace F_a1_duplicated := F_a1_duplicated.other W236 (Or.inr (sn_60 hw))
      replace F_a1_lastDeliveryNanos := F_a1_lastDeliveryNanos.other W236 (Or.inr (sn_61 hw))
      replace F_a1_seen := F_a1_seen.other W236 (Or.inr (sn_62 hw))
      replace F_a1_latenciesMicros := F_a1_latenciesMicros.other W236 (Or.inr (sn_63 hw))
      replace V_ts := V_ts.other W236 (Ne.symm ne_a1_ts)
      replace V_tl := V_tl.other W236 (Ne.symm ne_a1_tl)
      replace Z0 := Nat.le_trans Z0 (Keep.of_wr W236).1
      replace KP := KP.wr W236 (Or.inl (List.mem_of_getElem? (i := 0) rfl))
      replace NF := Fr.snoc X236 NF g_a1
      clear W236
      show WP p.tables e below _ T236 (mkF m 157 #[.val (.ref a1), .val (.int p1), .val (.long q1), .second, .val (.long q2), .second, .val (.int p3), .val (.long (own_bit p1)), .second, .val (.int (0 : Int32)), .val (.int (1 : Int32)), .val (.int (1 : Int32))] [])
      have bk237 : ∀ t, Steps p.tables e below (T236.setTop (mkF m 191 #[.val (.ref a1), .val (.int p1), .val (.long q1), .second, .val (.long q2), .second, .val (.int p3), .val (.long (own_bit p1)), .second, .val (.int (0 : Int32)), .val (.int (1 : Int32)), .val (.int (1 : Int32))] [(.int (1 : Int32))])) t → Steps p.tables e below (T236.setTop (mkF m 157 #[.val (.ref a1), .val (.int p1), .val (.long q1), .second, .val (.long q2), .second, .val (.int p3), .val (.long (own_bit p1)), .second, .val (.int (0 : Int32)), .val (.int (1 : Int32)), .val (.int (1 : Int32))] [])) t := fun t k => by
        refine XS.goto X236.here hx rfl (pc0 := 157) (pc' := 176) rfl (hb hby d3_157) (by decide) (by decide) ?_
        refine XS.goto X236.here hx rfl (pc0 := 176) (pc' := 189) rfl (hb hby d3_176) (by decide) (by decide) ?_
        refine XS.iload X236.here hx rfl (hb hby d3_189) rfl ?_
        exact k
      refine WP.st bk237 ?_
      clear bk237
      subst hG
      obtain ⟨fs, hr, hrun, hended, hW, hsame⟩ := X236.leave (v := some (.int (1 : Int32))) (fun h => by rw [Bd.returns] at h; cases h)
      refine WP.fin ⟨_, _, ?_, hrun, hended, _, _, rfl, ?_, ⟨_, rfl⟩, hW, hsame.mono (by decide) (by decide)⟩
      · exact retN X236 hx (t := .boolean) Bd.returns (by simp) (hb hby d3_191) hr
      · show Q3f1 Z a1 p1 q1 q2 p3 u_highestSequence u_messages u_delivered u_late u_outOfOrder u_duplicated u_lastDeliveryNanos ts ks tl kl wv v0 v1 v2 v3 v4 v5 v6 v7 v8 v9 v10 v11 v12 v13 v14 v15 h0 n0 _ T236.heap _
        rw [e236]
        exact ⟨u_delivered, (u_late + (1 : Int64)), u_highestSequence, (u_outOfOrder + (1 : Int64)), u_lastDeliveryNanos, rfl, NF, KP, F_a1_highestSequence, F_a1_messages, F_a1_delivered, F_a1_late, F_a1_outOfOrder, F_a1_duplicated, F_a1_lastDeliveryNanos, F_a1_seen, F_a1_latenciesMicros, V_ts, V_tl, (by rw [own_d2, hde]; decide)⟩
  · skip
    have bk238 : ∀ t, Steps p.tables e below (T202.setTop (mkF m 76 #[.val (.ref a1), .val (.int p1), .val (.long q1), .second, .val (.long q2), .second, .val (.int p3), .val (.long (own_bit p1)), .second, .val (.int (0 : Int32)), .val (.int (1 : Int32)), .unset] [(.int p1), (.ref a1)])) t → Steps p.tables e below (T202.setTop (mkF m 58 #[.val (.ref a1), .val (.int p1), .val (.long q1), .second, .val (.long q2), .second, .val (.int p3), .val (.long (own_bit p1)), .second, .val (.int (0 : Int32)), .val (.int (1 : Int32)), .unset] [(.int u_highestSequence), (.int p1)])) t := fun t k => by
      refine XS.icmpYes X202.here hx rfl (pc0 := 58) (pc' := 74) rfl (hb hby d3_58) rfl (flt hc203).2.1 (by decide) (by decide) ?_
      refine XS.aloadN X202.here hx rfl (hb hby d3_74) rfl rfl ?_
      refine XS.iloadN X202.here hx rfl (hb hby d3_75) rfl ?_
      exact k
    refine WP.st bk238 ?_
    clear bk238
    obtain ⟨T239, h239, X239, e239, W239, st239⟩ := putF X202 hx hZ hown (host := "") (Or.inl (hw _ (List.mem_of_getElem? (i := 9) rfl))) Via.refl e202 F_a1_highestSequence E_a1 (Or.inl (hw _ (List.mem_of_getElem? (i := 10) rfl))) (hw _ (List.mem_of_getElem? (i := 1) rfl)) (ty := .int) (by decide) rfl rfl (g := (mkF m 76 #[.val (.ref a1), .val (.int p1), .val (.long q1), .second, .val (.long q2), .second, .val (.int p3), .val (.long (own_bit p1)), .second, .val (.int (0 : Int32)), .val (.int (1 : Int32)), .unset] [(.int p1), (.ref a1)])) rfl rfl (hb hby d3_76)
    refine WP.st st239 ?_
    clear st239
    replace E_a1 := E_a1.wr W239
    replace F_a1_highestSequence := F_a1_highestSequence.same W239
    replace F_a1_messages := F_a1_messages.other W239 (Or.inr (sn_1 hw))
    replace F_a1_delivered := F_a1_delivered.other W239 (Or.inr (sn_3 hw))
    replace F_a1_late := F_a1_late.other W239 (Or.inr (sn_4 hw))
    replace F_a1_outOfOrder := F_a1_outOfOrder.other W239 (Or.inr (sn_5 hw))
    replace F_a1_duplicated := F_a1_duplicated.other W239 (Or.inr (sn_6 hw))
    replace F_a1_lastDeliveryNanos := F_a1_lastDeliveryNanos.other W239 (Or.inr (sn_7 hw))
    replace F_a1_seen := F_a1_seen.other W239 (Or.inr (sn_2 hw))
    replace F_a1_latenciesMicros := F_a1_latenciesMicros.other W239 (Or.inr (sn_0 hw))
    replace V_tl := V_tl.other W239 (Ne.symm ne_a1_tl)
    replace V_ts := V_ts.other W239 (Ne.symm ne_a1_ts)
    replace Z0 := Nat.le_trans Z0 (Keep.of_wr W239).1
    replace KP := KP.wr W239 (Or.inl (List.mem_of_getElem? (i := 0) rfl))
    replace NF := Fr.snoc X239 NF g_a1
    clear W239
    show WP p.tables e below _ T239 (mkF m 79 #[.val (.ref a1), .val (.int p1), .val (.long q1), .second, .val (.long q2), .second, .val (.int p3), .val (.long (own_bit p1)), .second, .val (.int (0 : Int32)), .val (.int (1 : Int32)), .unset] [])
    have bk240 : ∀ t, Steps p.tables e below (T239.setTop (mkF m 80 #[.val (.ref a1), .val (.int p1), .val (.long q1), .second, .val (.long q2), .second, .val (.int p3), .val (.long (own_bit p1)), .second, .val (.int (0 : Int32)), .val (.int (1 : Int32)), .unset] [(.ref a1)])) t → Steps p.tables e below (T239.setTop (mkF m 79 #[.val (.ref a1), .val (.int p1), .val (.long q1), .second, .val (.long q2), .second, .val (.int p3), .val (.long (own_bit p1)), .second, .val (.int (0 : Int32)), .val (.int (1 : Int32)), .unset] [])) t := fun t k => by
      refine XS.aloadN X239.here hx rfl (hb hby d3_79) rfl rfl ?_
      exact k
    refine WP.st bk240 ?_
    clear bk240
    obtain ⟨T241, X241, e241, st241⟩ := getF X239 hx hZ hown (host := "") (Or.inl (hw _ (List.mem_of_getElem? (i := 24) rfl))) Via.refl e239 F_a1_delivered (g := (mkF m 80 #[.val (.ref a1), .val (.int p1), .val (.long q1), .second, .val (.long q2), .second, .val (.int p3), .val (.long (own_bit p1)), .second, .val (.int (0 : Int32)), .val (.int (1 : Int32)), .unset] [(.ref a1)])) rfl rfl (hb hby d3_80)
    refine WP.st st241 ?_
    clear st241
    show WP p.tables e below _ T241 (mkF m 83 #[.val (.ref a1), .val (.int p1), .val (.long q1), .second, .val (.long q2), .second, .val (.int p3), .val (.long (own_bit p1)), .second, .val (.int (0 : Int32)), .val (.int (1 : Int32)), .unset] [(.long u_delivered)])
    have bk242 : ∀ t, Steps p.tables e below (T241.setTop (mkF m 84 #[.val (.ref a1), .val (.int p1), .val (.long q1), .second, .val (.long q2), .second, .val (.int p3), .val (.long (own_bit p1)), .second, .val (.int (0 : Int32)), .val (.int (1 : Int32)), .unset] [(.ref a1), (.long u_delivered)])) t → Steps p.tables e below (T241.setTop (mkF m 83 #[.val (.ref a1), .val (.int p1), .val (.long q1), .second, .val (.long q2), .second, .val (.int p3), .val (.long (own_bit p1)), .second, .val (.int (0 : Int32)), .val (.int (1 : Int32)), .unset] [(.long u_delivered)])) t := fun t k => by
      refine XS.aloadN X241.here hx rfl (hb hby d3_83) rfl rfl ?_
      exact k
    refine WP.st bk242 ?_
    clear bk242
    obtain ⟨T243, X243, e243, st243⟩ := getF X241 hx hZ hown (host := "") (Or.inl (hw _ (List.mem_of_getElem? (i := 26) rfl))) Via.refl e241 F_a1_late (g := (mkF m 84 #[.val (.ref a1), .val (.int p1), .val (.long q1), .second, .val (.long q2), .second, .val (.int p3), .val (.long (own_bit p1)), .second, .val (.int (0 : Int32)), .val (.int (1 : Int32)), .unset] [(.ref a1), (.long u_delivered)])) rfl rfl (hb hby d3_84)
    refine WP.st st243 ?_
    clear st243
    show WP p.tables e below _ T243 (mkF m 87 #[.val (.ref a1), .val (.int p1), .val (.long q1), .second, .val (.long q2), .second, .val (.int p3), .val (.long (own_bit p1)), .second, .val (.int (0 : Int32)), .val (.int (1 : Int32)), .unset] [(.long u_late), (.long u_delivered)])
    have bk244 : ∀ t, Steps p.tables e below (T243.setTop (mkF m 89 #[.val (.ref a1), .val (.int p1), .val (.long q1), .second, .val (.long q2), .second, .val (.int p3), .val (.long (own_bit p1)), .second, .val (.int (0 : Int32)), .val (.int (1 : Int32)), .unset] [(.int ((u_delivered + u_late).toInt32))])) t → Steps p.tables e below (T243.setTop (mkF m 87 #[.val (.ref a1), .val (.int p1), .val (.long q1), .second, .val (.long q2), .second, .val (.int p3), .val (.long (own_bit p1)), .second, .val (.int (0 : Int32)), .val (.int (1 : Int32)), .unset] [(.long u_late), (.long u_delivered)])) t := fun t k => by
      refine XS.ladd X243.here hx rfl (hb hby d3_87) rfl ?_
      refine XS.l2i X243.here hx rfl (hb hby d3_88) rfl ?_
      exact k
    refine WP.st bk244 ?_
    clear bk244
    rw [show ((u_delivered + u_late).toInt32) = (1 : Int32) from by rw [hde]; decide]
    show WP p.tables e below _ T243 (mkF m 89 #[.val (.ref a1), .val (.int p1), .val (.long q1), .second, .val (.long q2), .second, .val (.int p3), .val (.long (own_bit p1)), .second, .val (.int (0 : Int32)), .val (.int (1 : Int32)), .unset] [(.int (1 : Int32))])
    have bk245 : ∀ t, Steps p.tables e below (T243.setTop (mkF m 94 #[.val (.ref a1), .val (.int p1), .val (.long q1), .second, .val (.long q2), .second, .val (.int p3), .val (.long (own_bit p1)), .second, .val (.int (0 : Int32)), .val (.int (1 : Int32)), .val (.int (1 : Int32))] [(.ref a1), (.int (1 : Int32))])) t → Steps p.tables e below (T243.setTop (mkF m 89 #[.val (.ref a1), .val (.int p1), .val (.long q1), .second, .val (.long q2), .second, .val (.int p3), .val (.long (own_bit p1)), .second, .val (.int (0 : Int32)), .val (.int (1 : Int32)), .unset] [(.int (1 : Int32))])) t := fun t k => by
      refine XS.istore X243.here hx rfl (hb hby d3_89) rfl (l' := #[.val (.ref a1), .val (.int p1), .val (.long q1), .second, .val (.long q2), .second, .val (.int p3), .val (.long (own_bit p1)), .second, .val (.int (0 : Int32)), .val (.int (1 : Int32)), .val (.int (1 : Int32))]) rfl ?_
      refine XS.iload X243.here hx rfl (hb hby d3_91) rfl ?_
      refine XS.aloadN X243.here hx rfl (hb hby d3_93) rfl rfl ?_
      exact k
    refine WP.st bk245 ?_
    clear bk245
    obtain ⟨T246, X246, e246, st246⟩ := getF X243 hx hZ hown (host := "") (Or.inl (hw _ (List.mem_of_getElem? (i := 12) rfl))) Via.refl e243 F_a1_latenciesMicros (g := (mkF m 94 #[.val (.ref a1), .val (.int p1), .val (.long q1), .second, .val (.long q2), .second, .val (.int p3), .val (.long (own_bit p1)), .second, .val (.int (0 : Int32)), .val (.int (1 : Int32)), .val (.int (1 : Int32))] [(.ref a1), (.int (1 : Int32))])) rfl rfl (hb hby d3_94)
    refine WP.st st246 ?_
    clear st246
    show WP p.tables e below _ T246 (mkF m 97 #[.val (.ref a1), .val (.int p1), .val (.long q1), .second, .val (.long q2), .second, .val (.int p3), .val (.long (own_bit p1)), .second, .val (.int (0 : Int32)), .val (.int (1 : Int32)), .val (.int (1 : Int32))] [(.ref tl), (.int (1 : Int32))])
    obtain ⟨cl247, Ar247, len247⟩ := V_tl.len
    have bk248 : ∀ t, Steps p.tables e below (T246.setTop (mkF m 120 #[.val (.ref a1), .val (.int p1), .val (.long q1), .second, .val (.long q2), .second, .val (.int p3), .val (.long (own_bit p1)), .second, .val (.int (0 : Int32)), .val (.int (1 : Int32)), .val (.int (1 : Int32))] [(.ref a1)])) t → Steps p.tables e below (T246.setTop (mkF m 97 #[.val (.ref a1), .val (.int p1), .val (.long q1), .second, .val (.long q2), .second, .val (.int p3), .val (.long (own_bit p1)), .second, .val (.int (0 : Int32)), .val (.int (1 : Int32)), .val (.int (1 : Int32))] [(.ref tl), (.int (1 : Int32))])) t := fun t k => by
      refine X246.arraylength hx (by rw [e246]; exact Ar247.1) (State.isArrayOf_alike hZ.alike Ar247.2.1) (g := (mkF m 97 #[.val (.ref a1), .val (.int p1), .val (.long q1), .second, .val (.long q2), .second, .val (.int p3), .val (.long (own_bit p1)), .second, .val (.int (0 : Int32)), .val (.int (1 : Int32)), .val (.int (1 : Int32))] [(.ref tl), (.int (1 : Int32))])) rfl rfl (hb hby d3_97) _ ?_
      rw [len247]
      refine XS.icmpYes X246.here hx rfl (pc0 := 98) (pc' := 119) rfl (hb hby d3_98) rfl (feq (by decide : ¬ ((1 : Int32) = (16 : Int32)))).2 (by decide) (by decide) ?_
      refine XS.aloadN X246.here hx rfl (hb hby d3_119) rfl rfl ?_
      exact k
    refine WP.st bk248 ?_
    clear bk248
    obtain ⟨T249, X249, e249, st249⟩ := getF X246 hx hZ hown (host := "") (Or.inl (hw _ (List.mem_of_getElem? (i := 12) rfl))) Via.refl e246 F_a1_latenciesMicros (g := (mkF m 120 #[.val (.ref a1), .val (.int p1), .val (.long q1), .second, .val (.long q2), .second, .val (.int p3), .val (.long (own_bit p1)), .second, .val (.int (0 : Int32)), .val (.int (1 : Int32)), .val (.int (1 : Int32))] [(.ref a1)])) rfl rfl (hb hby d3_120)
    refine WP.st st249 ?_
    clear st249
    show WP p.tables e below _ T249 (mkF m 123 #[.val (.ref a1), .val (.int p1), .val (.long q1), .second, .val (.long q2), .second, .val (.int p3), .val (.long (own_bit p1)), .second, .val (.int (0 : Int32)), .val (.int (1 : Int32)), .val (.int (1 : Int32))] [(.ref tl)])
    have bk250 : ∀ t, Steps p.tables e below (T249.setTop (mkF m 134 #[.val (.ref a1), .val (.int p1), .val (.long q1), .second, .val (.long q2), .second, .val (.int p3), .val (.long (own_bit p1)), .second, .val (.int (0 : Int32)), .val (.int (1 : Int32)), .val (.int (1 : Int32))] [(.long (q1 / (1000 : Int64))), (.long (0 : Int64)), (.long (2147483647 : Int64)), (.int (1 : Int32)), (.ref tl)])) t → Steps p.tables e below (T249.setTop (mkF m 123 #[.val (.ref a1), .val (.int p1), .val (.long q1), .second, .val (.long q2), .second, .val (.int p3), .val (.long (own_bit p1)), .second, .val (.int (0 : Int32)), .val (.int (1 : Int32)), .val (.int (1 : Int32))] [(.ref tl)])) t := fun t k => by
      refine XS.iload X249.here hx rfl (hb hby d3_123) rfl ?_
      refine X249.ldc2Long hx hown (mvT hZ (hw _ (List.mem_of_getElem? (i := 28) rfl))) (g := (mkF m 125 #[.val (.ref a1), .val (.int p1), .val (.long q1), .second, .val (.long q2), .second, .val (.int p3), .val (.long (own_bit p1)), .second, .val (.int (0 : Int32)), .val (.int (1 : Int32)), .val (.int (1 : Int32))] [(.int (1 : Int32)), (.ref tl)])) rfl (hb hby d3_125) _ ?_
      refine XS.lconst X249.here hx rfl (hb hby d3_128) ?_
      refine XS.lloadN X249.here hx rfl (hb hby d3_129) rfl ?_
      show Steps p.tables e below (T249.setTop (mkF m 130 #[.val (.ref a1), .val (.int p1), .val (.long q1), .second, .val (.long q2), .second, .val (.int p3), .val (.long (own_bit p1)), .second, .val (.int (0 : Int32)), .val (.int (1 : Int32)), .val (.int (1 : Int32))] [(.long q1), (.long (0 : Int64)), (.long (2147483647 : Int64)), (.int (1 : Int32)), (.ref tl)])) t
      refine X249.ldc2Long hx hown (mvT hZ (hw _ (List.mem_of_getElem? (i := 29) rfl))) (g := (mkF m 130 #[.val (.ref a1), .val (.int p1), .val (.long q1), .second, .val (.long q2), .second, .val (.int p3), .val (.long (own_bit p1)), .second, .val (.int (0 : Int32)), .val (.int (1 : Int32)), .val (.int (1 : Int32))] [(.long q1), (.long (0 : Int64)), (.long (2147483647 : Int64)), (.int (1 : Int32)), (.ref tl)])) rfl (hb hby d3_130) _ ?_
      refine XS.ldiv X249.here hx rfl (hb hby d3_133) rfl (by decide) ?_
      exact k
    refine WP.st bk250 ?_
    clear bk250
    obtain ⟨_, _, ⟨T251, L251, k251, n251⟩, -, X251, ⟨Lc251, hQ251, l251, y251, z251⟩, st251⟩ := Jvm.LawKit.callS X249 hx (y := (⟨"java/lang/Math", "max", "(JJ)J"⟩ : MethodName)) hown (mvT hZ (hw _ (List.mem_of_getElem? (i := 30) rfl))) (mvT hZ (hw _ (List.mem_of_getElem? (i := 31) rfl))) (mvT hZ (hw _ (List.mem_of_getElem? (i := 32) rfl))) (mvT hZ (hw _ (List.mem_of_getElem? (i := 33) rfl))) (by decide) (backOf (W := 4) (rm4 l Z a0 hw [] (0 : Int64) (q1 / (1000 : Int64)) h239 n0 Z0 ) hZ (hw _ (List.mem_of_getElem? (i := 33) rfl)) (hw _ (List.mem_of_getElem? (i := 32) rfl)) (by decide) (by decide)) (g := (mkF m 134 #[.val (.ref a1), .val (.int p1), .val (.long q1), .second, .val (.long q2), .second, .val (.int p3), .val (.long (own_bit p1)), .second, .val (.int (0 : Int32)), .val (.int (1 : Int32)), .val (.int (1 : Int32))] [(.long (q1 / (1000 : Int64))), (.long (0 : Int64)), (.long (2147483647 : Int64)), (.int (1 : Int32)), (.ref tl)])) rfl (by rw [hml]; rfl) (argsL := [(.long (0 : Int64)), (.long (q1 / (1000 : Int64)))]) (rest := [(.long (2147483647 : Int64)), (.int (1 : Int32)), (.ref tl)]) (lenOf pd_2 rfl) rfl (by show 2 * 0 + _ ≤ _; exact Nat.le_of_eq rfl) (hb hby d3_134) (fun _ _ => ⟨rfl, e249, (by decide : 0 + 0 ≤ _), (by decide : 0 + 0 ≤ _)⟩)
    dsimp only [Pt.U, Pt.locs, Pt.cells, Pt.slots] at X251 l251 y251 z251 st251 hQ251
    subst l251 y251 z251
    obtain ⟨rfl, Nq251, Kq251⟩ := hQ251
    replace NF := Fr.app NF Nq251
    clear Nq251
    refine WP.st st251 ?_
    clear st251
    replace Kq251 := Kq251.trans (rfl : h239 = h239)
    show WP p.tables e below _ T251 (mkF m 137 #[.val (.ref a1), .val (.int p1), .val (.long q1), .second, .val (.long q2), .second, .val (.int p3), .val (.long (own_bit p1)), .second, .val (.int (0 : Int32)), .val (.int (1 : Int32)), .val (.int (1 : Int32))] [(.long (own_maxl (0 : Int64) (q1 / (1000 : Int64)))), (.long (2147483647 : Int64)), (.int (1 : Int32)), (.ref tl)])
    obtain ⟨_, _, ⟨T252, L252, k252, n252⟩, -, X252, ⟨Lc252, hQ252, l252, y252, z252⟩, st252⟩ := Jvm.LawKit.callS X251 hx (y := (⟨"java/lang/Math", "min", "(JJ)J"⟩ : MethodName)) hown (mvT hZ (hw _ (List.mem_of_getElem? (i := 34) rfl))) (mvT hZ (hw _ (List.mem_of_getElem? (i := 35) rfl))) (mvT hZ (hw _ (List.mem_of_getElem? (i := 32) rfl))) (mvT hZ (hw _ (List.mem_of_getElem? (i := 36) rfl))) (by decide) (backOf (W := 2) (rm5 l Z a0 hw [] (2147483647 : Int64) (own_maxl (0 : Int64) (q1 / (1000 : Int64))) h239 n0 Z0 ) hZ (hw _ (List.mem_of_getElem? (i := 36) rfl)) (hw _ (List.mem_of_getElem? (i := 32) rfl)) (by decide) (by decide)) (g := (mkF m 137 #[.val (.ref a1), .val (.int p1), .val (.long q1), .second, .val (.long q2), .second, .val (.int p3), .val (.long (own_bit p1)), .second, .val (.int (0 : Int32)), .val (.int (1 : Int32)), .val (.int (1 : Int32))] [(.long (own_maxl (0 : Int64) (q1 / (1000 : Int64)))), (.long (2147483647 : Int64)), (.int (1 : Int32)), (.ref tl)])) rfl (by rw [hml]; rfl) (argsL := [(.long (2147483647 : Int64)), (.long (own_maxl (0 : Int64) (q1 / (1000 : Int64))))]) (rest := [(.int (1 : Int32)), (.ref tl)]) (lenOf pd_2 rfl) rfl (by show 2 * 0 + _ ≤ _; exact Nat.le_of_eq rfl) (hb hby d3_137) (fun _ _ => ⟨rfl, Kq251, (by decide : 0 + 0 ≤ _), (by decide : 0 + 0 ≤ _)⟩)
    dsimp only [Pt.U, Pt.locs, Pt.cells, Pt.slots] at X252 l252 y252 z252 st252 hQ252
    subst l252 y252 z252
    obtain ⟨rfl, Nq252, Kq252⟩ := hQ252
    replace NF := Fr.app NF Nq252
    clear Nq252
    refine WP.st st252 ?_
    clear st252
    replace Kq252 := Kq252.trans (rfl : h239 = h239)
    show WP p.tables e below _ T252 (mkF m 140 #[.val (.ref a1), .val (.int p1), .val (.long q1), .second, .val (.long q2), .second, .val (.int p3), .val (.long (own_bit p1)), .second, .val (.int (0 : Int32)), .val (.int (1 : Int32)), .val (.int (1 : Int32))] [(.long (own_minl (2147483647 : Int64) (own_maxl (0 : Int64) (q1 / (1000 : Int64))))), (.int (1 : Int32)), (.ref tl)])
    have bk253 : ∀ t, Steps p.tables e below (T252.setTop (mkF m 141 #[.val (.ref a1), .val (.int p1), .val (.long q1), .second, .val (.long q2), .second, .val (.int p3), .val (.long (own_bit p1)), .second, .val (.int (0 : Int32)), .val (.int (1 : Int32)), .val (.int (1 : Int32))] [(.int ((own_minl (2147483647 : Int64) (own_maxl (0 : Int64) (q1 / (1000 : Int64)))).toInt32)), (.int (1 : Int32)), (.ref tl)])) t → Steps p.tables e below (T252.setTop (mkF m 140 #[.val (.ref a1), .val (.int p1), .val (.long q1), .second, .val (.long q2), .second, .val (.int p3), .val (.long (own_bit p1)), .second, .val (.int (0 : Int32)), .val (.int (1 : Int32)), .val (.int (1 : Int32))] [(.long (own_minl (2147483647 : Int64) (own_maxl (0 : Int64) (q1 / (1000 : Int64))))), (.int (1 : Int32)), (.ref tl)])) t := fun t k => by
      refine XS.l2i X252.here hx rfl (hb hby d3_140) rfl ?_
      exact k
    refine WP.st bk253 ?_
    clear bk253
    rw [show ((own_minl (2147483647 : Int64) (own_maxl (0 : Int64) (q1 / (1000 : Int64)))).toInt32) = (own_lat q1) from rfl]
    show WP p.tables e below _ T252 (mkF m 141 #[.val (.ref a1), .val (.int p1), .val (.long q1), .second, .val (.long q2), .second, .val (.int p3), .val (.long (own_bit p1)), .second, .val (.int (0 : Int32)), .val (.int (1 : Int32)), .val (.int (1 : Int32))] [(.int (own_lat q1)), (.int (1 : Int32)), (.ref tl)])
    obtain ⟨cl254, Ar254, q254, S254, N254, H254, G254⟩ := V_tl
    have hin254 : ¬ ((1 : Int32) < 0 ∨ cl254.slots.size ≤ ((1 : Int32)).toNatClampNeg) := inb_of S254 ⟨by decide, by decide⟩
    obtain ⟨T255, h255, X255, e255, W255, st255⟩ := stI X252 hx hZ Kq252 Ar254 (j := (1 : Int32)) hin254 (g := (mkF m 141 #[.val (.ref a1), .val (.int p1), .val (.long q1), .second, .val (.long q2), .second, .val (.int p3), .val (.long (own_bit p1)), .second, .val (.int (0 : Int32)), .val (.int (1 : Int32)), .val (.int (1 : Int32))] [(.int (own_lat q1)), (.int (1 : Int32)), (.ref tl)])) rfl rfl (hb hby d3_141)
    refine WP.st st255 ?_
    clear st255
    have Vn : Arv Z h255 tl kl .int (16 : Int32) [v0, (.int (own_lat q1)), v2, v3, v4, v5, v6, v7, v8, v9, v10, v11, v12, v13, v14, v15] (.int (0 : Int32)) := Arv.set Ar254 q254 S254 N254 H254 G254 rfl W255 1 rfl (Nat.le_of_ble_eq_true rfl)
    replace E_a1 := E_a1.wr W255
    replace F_a1_highestSequence := F_a1_highestSequence.other W255 (Or.inl ne_a1_tl)
    replace F_a1_messages := F_a1_messages.other W255 (Or.inl ne_a1_tl)
    replace F_a1_delivered := F_a1_delivered.other W255 (Or.inl ne_a1_tl)
    replace F_a1_late := F_a1_late.other W255 (Or.inl ne_a1_tl)
    replace F_a1_outOfOrder := F_a1_outOfOrder.other W255 (Or.inl ne_a1_tl)
    replace F_a1_duplicated := F_a1_duplicated.other W255 (Or.inl ne_a1_tl)
    replace F_a1_lastDeliveryNanos := F_a1_lastDeliveryNanos.other W255 (Or.inl ne_a1_tl)
    replace F_a1_seen := F_a1_seen.other W255 (Or.inl ne_a1_tl)
    replace F_a1_latenciesMicros := F_a1_latenciesMicros.other W255 (Or.inl ne_a1_tl)
    replace V_ts := V_ts.other W255 (Ne.symm ne_tl_ts)
    replace Z0 := Nat.le_trans Z0 (Keep.of_wr W255).1
    replace KP := KP.wr W255 (Or.inl (List.mem_of_getElem? (i := 2) rfl))
    replace V_tl := Vn
    replace NF := Fr.snoc X255 NF g_tl
    clear W255 hin254 q254 S254 N254 H254 G254 Ar254
    show WP p.tables e below _ T255 (mkF m 142 #[.val (.ref a1), .val (.int p1), .val (.long q1), .second, .val (.long q2), .second, .val (.int p3), .val (.long (own_bit p1)), .second, .val (.int (0 : Int32)), .val (.int (1 : Int32)), .val (.int (1 : Int32))] [])
    have bk257 : ∀ t, Steps p.tables e below (T255.setTop (mkF m 144 #[.val (.ref a1), .val (.int p1), .val (.long q1), .second, .val (.long q2), .second, .val (.int p3), .val (.long (own_bit p1)), .second, .val (.int (0 : Int32)), .val (.int (1 : Int32)), .val (.int (1 : Int32))] [(.int p3)])) t → Steps p.tables e below (T255.setTop (mkF m 142 #[.val (.ref a1), .val (.int p1), .val (.long q1), .second, .val (.long q2), .second, .val (.int p3), .val (.long (own_bit p1)), .second, .val (.int (0 : Int32)), .val (.int (1 : Int32)), .val (.int (1 : Int32))] [])) t := fun t k => by
      refine XS.iload X255.here hx rfl (hb hby d3_142) rfl ?_
      exact k
    refine WP.st bk257 ?_
    clear bk257
    by_cases hc256 : p3 = (0 : Int32)
    · skip
      have bk258 : ∀ t, Steps p.tables e below (T255.setTop (mkF m 163 #[.val (.ref a1), .val (.int p1), .val (.long q1), .second, .val (.long q2), .second, .val (.int p3), .val (.long (own_bit p1)), .second, .val (.int (0 : Int32)), .val (.int (1 : Int32)), .val (.int (1 : Int32))] [(.long q2), (.ref a1)])) t → Steps p.tables e below (T255.setTop (mkF m 144 #[.val (.ref a1), .val (.int p1), .val (.long q1), .second, .val (.long q2), .second, .val (.int p3), .val (.long (own_bit p1)), .second, .val (.int (0 : Int32)), .val (.int (1 : Int32)), .val (.int (1 : Int32))] [(.int p3)])) t := fun t k => by
        refine XS.ifYes X255.here hx rfl (pc0 := 144) (pc' := 160) rfl (hb hby d3_144) rfl ((if0 _ _).trans (teq hc256).1) (by decide) (by decide) ?_
        refine XS.aloadN X255.here hx rfl (hb hby d3_160) rfl rfl ?_
        refine XS.lload X255.here hx rfl (hb hby d3_161) rfl ?_
        exact k
      refine WP.st bk258 ?_
      clear bk258
      obtain ⟨T259, h259, X259, e259, W259, st259⟩ := putF X255 hx hZ hown (host := "") (Or.inl (hw _ (List.mem_of_getElem? (i := 65) rfl))) Via.refl e255 F_a1_lastDeliveryNanos E_a1 (Or.inl (hw _ (List.mem_of_getElem? (i := 66) rfl))) (hw _ (List.mem_of_getElem? (i := 1) rfl)) (ty := .long) (by decide) rfl rfl (g := (mkF m 163 #[.val (.ref a1), .val (.int p1), .val (.long q1), .second, .val (.long q2), .second, .val (.int p3), .val (.long (own_bit p1)), .second, .val (.int (0 : Int32)), .val (.int (1 : Int32)), .val (.int (1 : Int32))] [(.long q2), (.ref a1)])) rfl rfl (hb hby d3_163)
      refine WP.st st259 ?_
      clear st259
      replace E_a1 := E_a1.wr W259
      replace F_a1_highestSequence := F_a1_highestSequence.other W259 (Or.inr (sn_40 hw))
      replace F_a1_messages := F_a1_messages.other W259 (Or.inr (sn_41 hw))
      replace F_a1_delivered := F_a1_delivered.other W259 (Or.inr (sn_42 hw))
      replace F_a1_late := F_a1_late.other W259 (Or.inr (sn_43 hw))
      replace F_a1_outOfOrder := F_a1_outOfOrder.other W259 (Or.inr (sn_44 hw))
      replace F_a1_duplicated := F_a1_duplicated.other W259 (Or.inr (sn_45 hw))
      replace F_a1_lastDeliveryNanos := F_a1_lastDeliveryNanos.same W259
      replace F_a1_seen := F_a1_seen.other W259 (Or.inr (sn_46 hw))
      replace F_a1_latenciesMicros := F_a1_latenciesMicros.other W259 (Or.inr (sn_47 hw))
      replace V_ts := V_ts.other W259 (Ne.symm ne_a1_ts)
      replace V_tl := V_tl.other W259 (Ne.symm ne_a1_tl)
      replace Z0 := Nat.le_trans Z0 (Keep.of_wr W259).1
      replace KP := KP.wr W259 (Or.inl (List.mem_of_getElem? (i := 0) rfl))
      replace NF := Fr.snoc X259 NF g_a1
      clear W259
      show WP p.tables e below _ T259 (mkF m 166 #[.val (.ref a1), .val (.int p1), .val (.long q1), .second, .val (.long q2), .second, .val (.int p3), .val (.long (own_bit p1)), .second, .val (.int (0 : Int32)), .val (.int (1 : Int32)), .val (.int (1 : Int32))] [])
      have bk260 : ∀ t, Steps p.tables e below (T259.setTop (mkF m 168 #[.val (.ref a1), .val (.int p1), .val (.long q1), .second, .val (.long q2), .second, .val (.int p3), .val (.long (own_bit p1)), .second, .val (.int (0 : Int32)), .val (.int (1 : Int32)), .val (.int (1 : Int32))] [(.ref a1), (.ref a1)])) t → Steps p.tables e below (T259.setTop (mkF m 166 #[.val (.ref a1), .val (.int p1), .val (.long q1), .second, .val (.long q2), .second, .val (.int p3), .val (.long (own_bit p1)), .second, .val (.int (0 : Int32)), .val (.int (1 : Int32)), .val (.int (1 : Int32))] [])) t := fun t k => by
        refine XS.aloadN X259.here hx rfl (hb hby d3_166) rfl rfl ?_
        refine XS.aloadN X259.here hx rfl (hb hby d3_167) rfl rfl ?_
        exact k
      refine WP.st bk260 ?_
      clear bk260
      obtain ⟨T261, X261, e261, st261⟩ := getF X259 hx hZ hown (host := "") (Or.inl (hw _ (List.mem_of_getElem? (i := 24) rfl))) Via.refl e259 F_a1_delivered (g := (mkF m 168 #[.val (.ref a1), .val (.int p1), .val (.long q1), .second, .val (.long q2), .second, .val (.int p3), .val (.long (own_bit p1)), .second, .val (.int (0 : Int32)), .val (.int (1 : Int32)), .val (.int (1 : Int32))] [(.ref a1), (.ref a1)])) rfl rfl (hb hby d3_168)
      refine WP.st st261 ?_
      clear st261
      show WP p.tables e below _ T261 (mkF m 171 #[.val (.ref a1), .val (.int p1), .val (.long q1), .second, .val (.long q2), .second, .val (.int p3), .val (.long (own_bit p1)), .second, .val (.int (0 : Int32)), .val (.int (1 : Int32)), .val (.int (1 : Int32))] [(.long u_delivered), (.ref a1)])
      have bk262 : ∀ t, Steps p.tables e below (T261.setTop (mkF m 173 #[.val (.ref a1), .val (.int p1), .val (.long q1), .second, .val (.long q2), .second, .val (.int p3), .val (.long (own_bit p1)), .second, .val (.int (0 : Int32)), .val (.int (1 : Int32)), .val (.int (1 : Int32))] [(.long (u_delivered + (1 : Int64))), (.ref a1)])) t → Steps p.tables e below (T261.setTop (mkF m 171 #[.val (.ref a1), .val (.int p1), .val (.long q1), .second, .val (.long q2), .second, .val (.int p3), .val (.long (own_bit p1)), .second, .val (.int (0 : Int32)), .val (.int (1 : Int32)), .val (.int (1 : Int32))] [(.long u_delivered), (.ref a1)])) t := fun t k => by
        refine XS.lconst X261.here hx rfl (hb hby d3_171) ?_
        refine XS.ladd X261.here hx rfl (hb hby d3_172) rfl ?_
        exact k
      refine WP.st bk262 ?_
      clear bk262
      obtain ⟨T263, h263, X263, e263, W263, st263⟩ := putF X261 hx hZ hown (host := "") (Or.inl (hw _ (List.mem_of_getElem? (i := 24) rfl))) Via.refl e261 F_a1_delivered E_a1 (Or.inl (hw _ (List.mem_of_getElem? (i := 25) rfl))) (hw _ (List.mem_of_getElem? (i := 1) rfl)) (ty := .long) (by decide) rfl rfl (g := (mkF m 173 #[.val (.ref a1), .val (.int p1), .val (.long q1), .second, .val (.long q2), .second, .val (.int p3), .val (.long (own_bit p1)), .second, .val (.int (0 : Int32)), .val (.int (1 : Int32)), .val (.int (1 : Int32))] [(.long (u_delivered + (1 : Int64))), (.ref a1)])) rfl rfl (hb hby d3_173)
      refine WP.st st263 ?_
      clear st263
      replace E_a1 := E_a1.wr W263
      replace F_a1_highestSequence := F_a1_highestSequence.other W263 (Or.inr (sn_48 hw))
      replace F_a1_messages := F_a1_messages.other W263 (Or.inr (sn_49 hw))
      replace F_a1_delivered := F_a1_delivered.same W263
      replace F_a1_late := F_a1_late.other W263 (Or.inr (sn_50 hw))
      replace F_a1_outOfOrder := F_a1_outOfOrder.other W263 (Or.inr (sn_51 hw))
      replace F_a1_duplicated := F_a1_duplicated.other W263 (Or.inr (sn_52 hw))
      replace F_a1_lastDeliveryNanos := F_a1_lastDeliveryNanos.other W263 (Or.inr (sn_53 hw))
      replace F_a1_seen := F_a1_seen.other W263 (Or.inr (sn_54 hw))
      replace F_a1_latenciesMicros := F_a1_latenciesMicros.other W263 (Or.inr (sn_55 hw))
      replace V_ts := V_ts.other W263 (Ne.symm ne_a1_ts)
      replace V_tl := V_tl.other W263 (Ne.symm ne_a1_tl)
      replace Z0 := Nat.le_trans Z0 (Keep.of_wr W263).1
      replace KP := KP.wr W263 (Or.inl (List.mem_of_getElem? (i := 0) rfl))
      replace NF := Fr.snoc X263 NF g_a1
      clear W263
      show WP p.tables e below _ T263 (mkF m 176 #[.val (.ref a1), .val (.int p1), .val (.long q1), .second, .val (.long q2), .second, .val (.int p3), .val (.long (own_bit p1)), .second, .val (.int (0 : Int32)), .val (.int (1 : Int32)), .val (.int (1 : Int32))] [])
      have bk264 : ∀ t, Steps p.tables e below (T263.setTop (mkF m 191 #[.val (.ref a1), .val (.int p1), .val (.long q1), .second, .val (.long q2), .second, .val (.int p3), .val (.long (own_bit p1)), .second, .val (.int (0 : Int32)), .val (.int (1 : Int32)), .val (.int (1 : Int32))] [(.int (1 : Int32))])) t → Steps p.tables e below (T263.setTop (mkF m 176 #[.val (.ref a1), .val (.int p1), .val (.long q1), .second, .val (.long q2), .second, .val (.int p3), .val (.long (own_bit p1)), .second, .val (.int (0 : Int32)), .val (.int (1 : Int32)), .val (.int (1 : Int32))] [])) t := fun t k => by
        refine XS.goto X263.here hx rfl (pc0 := 176) (pc' := 189) rfl (hb hby d3_176) (by decide) (by decide) ?_
        refine XS.iload X263.here hx rfl (hb hby d3_189) rfl ?_
        exact k
      refine WP.st bk264 ?_
      clear bk264
      subst hG
      obtain ⟨fs, hr, hrun, hended, hW, hsame⟩ := X263.leave (v := some (.int (1 : Int32))) (fun h => by rw [Bd.returns] at h; cases h)
      refine WP.fin ⟨_, _, ?_, hrun, hended, _, _, rfl, ?_, ⟨_, rfl⟩, hW, hsame.mono (by decide) (by decide)⟩
      · exact retN X263 hx (t := .boolean) Bd.returns (by simp) (hb hby d3_191) hr
      · show Q3f1 Z a1 p1 q1 q2 p3 u_highestSequence u_messages u_delivered u_late u_outOfOrder u_duplicated u_lastDeliveryNanos ts ks tl kl wv v0 v1 v2 v3 v4 v5 v6 v7 v8 v9 v10 v11 v12 v13 v14 v15 h0 n0 _ T263.heap _
        rw [e263]
        exact ⟨(u_delivered + (1 : Int64)), u_late, p1, u_outOfOrder, q2, rfl, NF, KP, F_a1_highestSequence, F_a1_messages, F_a1_delivered, F_a1_late, F_a1_outOfOrder, F_a1_duplicated, F_a1_lastDeliveryNanos, F_a1_seen, F_a1_latenciesMicros, V_ts, V_tl, (by rw [own_d1, hde]; decide)⟩
    · skip
      have bk265 : ∀ t, Steps p.tables e below (T255.setTop (mkF m 149 #[.val (.ref a1), .val (.int p1), .val (.long q1), .second, .val (.long q2), .second, .val (.int p3), .val (.long (own_bit p1)), .second, .val (.int (0 : Int32)), .val (.int (1 : Int32)), .val (.int (1 : Int32))] [(.ref a1), (.ref a1)])) t → Steps p.tables e below (T255.setTop (mkF m 144 #[.val (.ref a1), .val (.int p1), .val (.long q1), .second, .val (.long q2), .second, .val (.int p3), .val (.long (own_bit p1)), .second, .val (.int (0 : Int32)), .val (.int (1 : Int32)), .val (.int (1 : Int32))] [(.int p3)])) t := fun t k => by
        refine XS.ifNo X255.here hx rfl (hb hby d3_144) rfl ((if0 _ _).trans (feq hc256).1) ?_
        refine XS.aloadN X255.here hx rfl (hb hby d3_147) rfl rfl ?_
        refine XS.aloadN X255.here hx rfl (hb hby d3_148) rfl rfl ?_
        exact k
      refine WP.st bk265 ?_
      clear bk265
      obtain ⟨T266, X266, e266, st266⟩ := getF X255 hx hZ hown (host := "") (Or.inl (hw _ (List.mem_of_getElem? (i := 26) rfl))) Via.refl e255 F_a1_late (g := (mkF m 149 #[.val (.ref a1), .val (.int p1), .val (.long q1), .second, .val (.long q2), .second, .val (.int p3), .val (.long (own_bit p1)), .second, .val (.int (0 : Int32)), .val (.int (1 : Int32)), .val (.int (1 : Int32))] [(.ref a1), (.ref a1)])) rfl rfl (hb hby d3_149)
      refine WP.st st266 ?_
      clear st266
      show WP p.tables e below _ T266 (mkF m 152 #[.val (.ref a1), .val (.int p1), .val (.long q1), .second, .val (.long q2), .second, .val (.int p3), .val (.long (own_bit p1)), .second, .val (.int (0 : Int32)), .val (.int (1 : Int32)), .val (.int (1 : Int32))] [(.long u_late), (.ref a1)])
      have bk267 : ∀ t, Steps p.tables e below (T266.setTop (mkF m 154 #[.val (.ref a1), .val (.int p1), .val (.long q1), .second, .val (.long q2), .second, .val (.int p3), .val (.long (own_bit p1)), .second, .val (.int (0 : Int32)), .val (.int (1 : Int32)), .val (.int (1 : Int32))] [(.long (u_late + (1 : Int64))), (.ref a1)])) t → Steps p.tables e below (T266.setTop (mkF m 152 #[.val (.ref a1), .val (.int p1), .val (.long q1), .second, .val (.long q2), .second, .val (.int p3), .val (.long (own_bit p1)), .second, .val (.int (0 : Int32)), .val (.int (1 : Int32)), .val (.int (1 : Int32))] [(.long u_late), (.ref a1)])) t := fun t k => by
        refine XS.lconst X266.here hx rfl (hb hby d3_152) ?_
        refine XS.ladd X266.here hx rfl (hb hby d3_153) rfl ?_
        exact k
      refine WP.st bk267 ?_
      clear bk267
      obtain ⟨T268, h268, X268, e268, W268, st268⟩ := putF X266 hx hZ hown (host := "") (Or.inl (hw _ (List.mem_of_getElem? (i := 26) rfl))) Via.refl e266 F_a1_late E_a1 (Or.inl (hw _ (List.mem_of_getElem? (i := 27) rfl))) (hw _ (List.mem_of_getElem? (i := 1) rfl)) (ty := .long) (by decide) rfl rfl (g := (mkF m 154 #[.val (.ref a1), .val (.int p1), .val (.long q1), .second, .val (.long q2), .second, .val (.int p3), .val (.long (own_bit p1)), .second, .val (.int (0 : Int32)), .val (.int (1 : Int32)), .val (.int (1 : Int32))] [(.long (u_late + (1 : Int64))), (.ref a1)])) rfl rfl (hb hby d3_154)
      refine WP.st st268 ?_
      clear st268
      replace E_a1 := E_a1.wr W268
      replace F_a1_highestSequence := F_a1_highestSequence.other W268 (Or.inr (sn_56 hw))
      replace F_a1_messages := F_a1_messages.other W268 (Or.inr (sn_57 hw))
      replace F_a1_delivered := F_a1_delivered.other W268 (Or.inr (sn_58 hw))
      replace F_a1_late := F_a1_late.same W268
      replace F_a1_outOfOrder := F_a1_outOfOrder.other W268 (Or.inr (sn_59 hw))
      replace F_a1_duplicated := F_a1_duplicated.other W268 (Or.inr (sn_60 hw))
      replace F_a1_lastDeliveryNanos := F_a1_lastDeliveryNanos.other W268 (Or.inr (sn_61 hw))
      replace F_a1_seen := F_a1_seen.other W268 (Or.inr (sn_62 hw))
      replace F_a1_latenciesMicros := F_a1_latenciesMicros.other W268 (Or.inr (sn_63 hw))
      replace V_ts := V_ts.other W268 (Ne.symm ne_a1_ts)
      replace V_tl := V_tl.other W268 (Ne.symm ne_a1_tl)
      replace Z0 := Nat.le_trans Z0 (Keep.of_wr W268).1
      replace KP := KP.wr W268 (Or.inl (List.mem_of_getElem? (i := 0) rfl))
      replace NF := Fr.snoc X268 NF g_a1
      clear W268
      show WP p.tables e below _ T268 (mkF m 157 #[.val (.ref a1), .val (.int p1), .val (.long q1), .second, .val (.long q2), .second, .val (.int p3), .val (.long (own_bit p1)), .second, .val (.int (0 : Int32)), .val (.int (1 : Int32)), .val (.int (1 : Int32))] [])
      have bk269 : ∀ t, Steps p.tables e below (T268.setTop (mkF m 191 #[.val (.ref a1), .val (.int p1), .val (.long q1), .second, .val (.long q2), .second, .val (.int p3), .val (.long (own_bit p1)), .second, .val (.int (0 : Int32)), .val (.int (1 : Int32)), .val (.int (1 : Int32))] [(.int (1 : Int32))])) t → Steps p.tables e below (T268.setTop (mkF m 157 #[.val (.ref a1), .val (.int p1), .val (.long q1), .second, .val (.long q2), .second, .val (.int p3), .val (.long (own_bit p1)), .second, .val (.int (0 : Int32)), .val (.int (1 : Int32)), .val (.int (1 : Int32))] [])) t := fun t k => by
        refine XS.goto X268.here hx rfl (pc0 := 157) (pc' := 176) rfl (hb hby d3_157) (by decide) (by decide) ?_
        refine XS.goto X268.here hx rfl (pc0 := 176) (pc' := 189) rfl (hb hby d3_176) (by decide) (by decide) ?_
        refine XS.iload X268.here hx rfl (hb hby d3_189) rfl ?_
        exact k
      refine WP.st bk269 ?_
      clear bk269
      subst hG
      obtain ⟨fs, hr, hrun, hended, hW, hsame⟩ := X268.leave (v := some (.int (1 : Int32))) (fun h => by rw [Bd.returns] at h; cases h)
      refine WP.fin ⟨_, _, ?_, hrun, hended, _, _, rfl, ?_, ⟨_, rfl⟩, hW, hsame.mono (by decide) (by decide)⟩
      · exact retN X268 hx (t := .boolean) Bd.returns (by simp) (hb hby d3_191) hr
      · show Q3f1 Z a1 p1 q1 q2 p3 u_highestSequence u_messages u_delivered u_late u_outOfOrder u_duplicated u_lastDeliveryNanos ts ks tl kl wv v0 v1 v2 v3 v4 v5 v6 v7 v8 v9 v10 v11 v12 v13 v14 v15 h0 n0 _ T268.heap _
        rw [e268]
        exact ⟨u_delivered, (u_late + (1 : Int64)), p1, u_outOfOrder, u_lastDeliveryNanos, rfl, NF, KP, F_a1_highestSequence, F_a1_messages, F_a1_delivered, F_a1_late, F_a1_outOfOrder, F_a1_duplicated, F_a1_lastDeliveryNanos, F_a1_seen, F_a1_latenciesMicros, V_ts, V_tl, (by rw [own_d2, hde]; decide)⟩
theorem ef_3f2 (m : MethodId) (a1 : Addr) (p1 : Int32) (q1 : Int64) (q2 : Int64) (p3 : Int32) : entryFrame m #[(.ref a1), (.int p1), (.long q1), (.long q2), (.int p3)] 12 = mkF m 0 #[.val (.ref a1), .val (.int p1), .val (.long q1), .second, .val (.long q2), .second, .val (.int p3), .unset, .unset, .unset, .unset, .unset] [] := by first | (simp [entryFrame, mkF, argsToLocals, Value.category]; done) | rfl
def Q3f2 (Z : State) (a1 : Addr) (p1 : Int32) (q1 : Int64) (q2 : Int64) (p3 : Int32) (u_highestSequence : Int32) (u_messages : Int32) (u_delivered : Int64) (u_late : Int64) (u_outOfOrder : Int64) (u_duplicated : Int64) (u_lastDeliveryNanos : Int64) (ts : Addr) (ks : ClassId) (tl : Addr) (kl : ClassId) (wv : Int64) (v0 : Value) (v1 : Value) (v2 : Value) (v3 : Value) (v4 : Value) (v5 : Value) (v6 : Value) (v7 : Value) (v8 : Value) (v9 : Value) (v10 : Value) (v11 : Value) (v12 : Value) (v13 : Value) (v14 : Value) (v15 : Value) (h0 : Heap) (n0 : Nat) (v : Option Value) (h : Heap) (L : List Loc) : Prop := ∃ d1 : Int64, ∃ l1 : Int64, ∃ s1 : Int32, ∃ o1 : Int64, ∃ n1 : Int64, v = some (.int (1 : Int32)) ∧ Fr n0 L ∧ Keep h0 h [a1, ts, tl] ∧ Fld Z h a1 "com/example/otayori/otayori/bench/PairTally" "highestSequence" "I" (.int s1) ∧ Fld Z h a1 "com/example/otayori/otayori/bench/PairTally" "messages" "I" (.int u_messages) ∧ Fld Z h a1 "com/example/otayori/otayori/bench/PairTally" "delivered" "J" (.long d1) ∧ Fld Z h a1 "com/example/otayori/otayori/bench/PairTally" "late" "J" (.long l1) ∧ Fld Z h a1 "com/example/otayori/otayori/bench/PairTally" "outOfOrder" "J" (.long o1) ∧ Fld Z h a1 "com/example/otayori/otayori/bench/PairTally" "duplicated" "J" (.long u_duplicated) ∧ Fld Z h a1 "com/example/otayori/otayori/bench/PairTally" "lastDeliveryNanos" "J" (.long n1) ∧ Fld Z h a1 "com/example/otayori/otayori/bench/PairTally" "seen" "[J" (.ref ts) ∧ Fld Z h a1 "com/example/otayori/otayori/bench/PairTally" "latenciesMicros" "[I" (.ref tl) ∧ (Arv Z h ts ks .long (1 : Int32) [(.long (wv ||| (own_bit p1)))] (.long (0 : Int64))) ∧ (Arv Z h tl kl .int (16 : Int32) [v0, v1, (.int (own_lat q1)), v3, v4, v5, v6, v7, v8, v9, v10, v11, v12, v13, v14, v15] (.int (0 : Int32))) ∧ (d1 + l1 = (3 : Int64))
set_option maxRecDepth 65536 in
set_option maxHeartbeats 40000000 in
theorem rm3f2 (l : Launch) (Z : State) (a0 : Array Value) (hw : ∀ d ∈ tables_1, d.before a0 Z = true) (ws : List Jvm.Cond) (a1 : Addr) (p1 : Int32) (q1 : Int64) (q2 : Int64) (p3 : Int32) (u_highestSequence : Int32) (u_messages : Int32) (u_delivered : Int64) (u_late : Int64) (u_outOfOrder : Int64) (u_duplicated : Int64) (u_lastDeliveryNanos : Int64) (ts : Addr) (ks : ClassId) (tl : Addr) (kl : ClassId) (wv : Int64) (v0 : Value) (v1 : Value) (v2 : Value) (v3 : Value) (v4 : Value) (v5 : Value) (v6 : Value) (v7 : Value) (v8 : Value) (v9 : Value) (v10 : Value) (v11 : Value) (v12 : Value) (v13 : Value) (v14 : Value) (v15 : Value) (h0 : Heap) (n0 : Nat) (Z0 : n0 ≤ h0.size) (E_a1 : Exa Z h0 a1 "com/example/otayori/otayori/bench/PairTally") (g_a1 : n0 ≤ a1) (F_a1_highestSequence : Fld Z h0 a1 "com/example/otayori/otayori/bench/PairTally" "highestSequence" "I" (.int u_highestSequence)) (F_a1_messages : Fld Z h0 a1 "com/example/otayori/otayori/bench/PairTally" "messages" "I" (.int u_messages)) (F_a1_delivered : Fld Z h0 a1 "com/example/otayori/otayori/bench/PairTally" "delivered" "J" (.long u_delivered)) (F_a1_late : Fld Z h0 a1 "com/example/otayori/otayori/bench/PairTally" "late" "J" (.long u_late)) (F_a1_outOfOrder : Fld Z h0 a1 "com/example/otayori/otayori/bench/PairTally" "outOfOrder" "J" (.long u_outOfOrder)) (F_a1_duplicated : Fld Z h0 a1 "com/example/otayori/otayori/bench/PairTally" "duplicated" "J" (.long u_duplicated)) (F_a1_lastDeliveryNanos : Fld Z h0 a1 "com/example/otayori/otayori/bench/PairTally" "lastDeliveryNanos" "J" (.long u_lastDeliveryNanos)) (F_a1_seen : Fld Z h0 a1 "com/example/otayori/otayori/bench/PairTally" "seen" "[J" (.ref ts)) (F_a1_latenciesMicros : Fld Z h0 a1 "com/example/otayori/otayori/bench/PairTally" "latenciesMicros" "[I" (.ref tl)) (V_ts : Arv Z h0 ts ks .long (1 : Int32) [(.long wv)] (.long (0 : Int64))) (V_tl : Arv Z h0 tl kl .int (16 : Int32) [v0, v1, v2, v3, v4, v5, v6, v7, v8, v9, v10, v11, v12, v13, v14, v15] (.int (0 : Int32))) (g_ts : n0 ≤ ts) (g_tl : n0 ≤ tl) (ne_a1_ts : a1 ≠ ts) (ne_a1_tl : a1 ≠ tl) (ne_tl_ts : tl ≠ ts) (h8 : own_small p1) (hfirst : (lcmpW (wv &&& (own_bit p1)) (0 : Int64)) = (0 : Int32)) (hde : u_delivered + u_late = (2 : Int64)) :
    MetFree l (⟨"com/example/otayori/otayori/bench/PairTally", "record", "(IJJZ)Z"⟩ : MethodName) (head1 (Jvm.Cond.code (⟨"com/example/otayori/otayori/bench/PairTally", "record", "(IJJZ)Z"⟩ : MethodName) prog_3_method_2_code 12 (some .boolean) :: ws) ({ frames := 1, cells := 0, slots := 0, locals := 19 } : Room)) (fun a U => a = #[(.ref a1), (.int p1), (.long q1), (.long q2), (.int p3)] ∧ Z.Warmed39 U.vm ∧ U.heap = h0) (fun _ _ _ _ _ => True) (fun _ U o U' => ∃ v L, o = .returned v ∧ Q3f2 Z a1 p1 q1 q2 p3 u_highestSequence u_messages u_delivered u_late u_outOfOrder u_duplicated u_lastDeliveryNanos ts ks tl kl wv v0 v1 v2 v3 v4 v5 v6 v7 v8 v9 v10 v11 v12 v13 v14 v15 h0 n0 v U'.heap L ∧ FrameEnd U o U' L ({ frames := 1, cells := 0, slots := 0, locals := 19 } : Room).cells ({ frames := 1, cells := 0, slots := 0, locals := 19 } : Room).slots) := by
  refine MetFree.of_bodySF (plainFor_of_name pn_0) hisR ?_
  intro p e s m args below meth c s₁ Bd hml0 hP hK
  obtain ⟨rfl, hZ, hh⟩ := hP
  have hx := Bd.exec
  have hby := Bd.bytes
  have hml : c.maxLocals = 12 := hml0
  have hown : s.vm.findClass "com/example/otayori/otayori/bench/PairTally" = some m.cls := findClass_of_methodNamed Bd.named
  have hnm := (name_of_methodNamed Bd.named Bd.method).1
  have X0 : Stand p l e ({ frames := 1, cells := 0, slots := 0, locals := 19 } : Room) s m #[(.ref a1), (.int p1), (.long q1), (.long q2), (.int p3)] below meth c s₁ [] 0 0 := Stand.of_body Bd
  have e0 : s₁.heap = h0 := by rw [← hh, Bd.state]; rfl
  have NF := Fr.nil n0
  have KP : Keep h0 h0 [a1, ts, tl] := Keep.refl h0 _
  refine WP.go ?_
  refine WP.cast (ef_3f2 m a1 p1 q1 q2 p3) ?_
  refine WP.name ?_
  intro G hG
  have bk270 : ∀ t, Steps p.tables e below (s₁.setTop (mkF m 6 #[.val (.ref a1), .val (.int p1), .val (.long q1), .second, .val (.long q2), .second, .val (.int p3), .unset, .unset, .unset, .unset, .unset] [(.long ((1 : Int64) <<< ((p1 % (64 : Int32)) &&& 0x3f).toInt64))])) t → Steps p.tables e below (s₁.setTop (mkF m 0 #[.val (.ref a1), .val (.int p1), .val (.long q1), .second, .val (.long q2), .second, .val (.int p3), .unset, .unset, .unset, .unset, .unset] [])) t := fun t k => by
    refine XS.lconst X0.here hx rfl (hb hby d3_0) ?_
    refine XS.iloadN X0.here hx rfl (hb hby d3_1) rfl ?_
    refine XS.bipush X0.here hx rfl (hb hby d3_2) ?_
    refine iremM X0 hx rfl (hb hby d3_4) rfl (by decide) ?_
    show Steps p.tables e below (s₁.setTop (mkF m 5 #[.val (.ref a1), .val (.int p1), .val (.long q1), .second, .val (.long q2), .second, .val (.int p3), .unset, .unset, .unset, .unset, .unset] [(.int (p1 % (64 : Int32))), (.long (1 : Int64))])) t
    refine XS.lshl X0.here hx rfl (hb hby d3_5) rfl ?_
    exact k
  refine WP.st bk270 ?_
  clear bk270
  rw [show ((1 : Int64) <<< ((p1 % (64 : Int32)) &&& 0x3f).toInt64) = (own_bit p1) from rfl]
  show WP p.tables e below _ s₁ (mkF m 6 #[.val (.ref a1), .val (.int p1), .val (.long q1), .second, .val (.long q2), .second, .val (.int p3), .unset, .unset, .unset, .unset, .unset] [(.long (own_bit p1))])
  have bk271 : ∀ t, Steps p.tables e below (s₁.setTop (mkF m 12 #[.val (.ref a1), .val (.int p1), .val (.long q1), .second, .val (.long q2), .second, .val (.int p3), .val (.long (own_bit p1)), .second, .unset, .unset, .unset] [(.int (p1 / (64 : Int32)))])) t → Steps p.tables e below (s₁.setTop (mkF m 6 #[.val (.ref a1), .val (.int p1), .val (.long q1), .second, .val (.long q2), .second, .val (.int p3), .unset, .unset, .unset, .unset, .unset] [(.long (own_bit p1))])) t := fun t k => by
    refine XS.lstore X0.here hx rfl (hb hby d3_6) rfl (l' := #[.val (.ref a1), .val (.int p1), .val (.long q1), .second, .val (.long q2), .second, .val (.int p3), .val (.long (own_bit p1)), .second, .unset, .unset, .unset]) rfl ?_
    refine XS.iloadN X0.here hx rfl (hb hby d3_8) rfl ?_
    refine XS.bipush X0.here hx rfl (hb hby d3_9) ?_
    refine XS.idiv X0.here hx rfl (hb hby d3_11) rfl (by decide) ?_
    exact k
  refine WP.st bk271 ?_
  clear bk271
  rw [show (p1 / (64 : Int32)) = (0 : Int32) from own_div h8]
  show WP p.tables e below _ s₁ (mkF m 12 #[.val (.ref a1), .val (.int p1), .val (.long q1), .second, .val (.long q2), .second, .val (.int p3), .val (.long (own_bit p1)), .second, .unset, .unset, .unset] [(.int (0 : Int32))])
  have bk272 : ∀ t, Steps p.tables e below (s₁.setTop (mkF m 15 #[.val (.ref a1), .val (.int p1), .val (.long q1), .second, .val (.long q2), .second, .val (.int p3), .val (.long (own_bit p1)), .second, .val (.int (0 : Int32)), .unset, .unset] [(.ref a1)])) t → Steps p.tables e below (s₁.setTop (mkF m 12 #[.val (.ref a1), .val (.int p1), .val (.long q1), .second, .val (.long q2), .second, .val (.int p3), .val (.long (own_bit p1)), .second, .unset, .unset, .unset] [(.int (0 : Int32))])) t := fun t k => by
    refine XS.istore X0.here hx rfl (hb hby d3_12) rfl (l' := #[.val (.ref a1), .val (.int p1), .val (.long q1), .second, .val (.long q2), .second, .val (.int p3), .val (.long (own_bit p1)), .second, .val (.int (0 : Int32)), .unset, .unset]) rfl ?_
    refine XS.aloadN X0.here hx rfl (hb hby d3_14) rfl rfl ?_
    exact k
  refine WP.st bk272 ?_
  clear bk272
  obtain ⟨T273, X273, e273, st273⟩ := getF X0 hx hZ hown (host := "") (Or.inl (hw _ (List.mem_of_getElem? (i := 17) rfl))) Via.refl e0 F_a1_seen (g := (mkF m 15 #[.val (.ref a1), .val (.int p1), .val (.long q1), .second, .val (.long q2), .second, .val (.int p3), .val (.long (own_bit p1)), .second, .val (.int (0 : Int32)), .unset, .unset] [(.ref a1)])) rfl rfl (hb hby d3_15)
  refine WP.st st273 ?_
  clear st273
  show WP p.tables e below _ T273 (mkF m 18 #[.val (.ref a1), .val (.int p1), .val (.long q1), .second, .val (.long q2), .second, .val (.int p3), .val (.long (own_bit p1)), .second, .val (.int (0 : Int32)), .unset, .unset] [(.ref ts)])
  have bk274 : ∀ t, Steps p.tables e below (T273.setTop (mkF m 20 #[.val (.ref a1), .val (.int p1), .val (.long q1), .second, .val (.long q2), .second, .val (.int p3), .val (.long (own_bit p1)), .second, .val (.int (0 : Int32)), .unset, .unset] [(.int (0 : Int32)), (.ref ts)])) t → Steps p.tables e below (T273.setTop (mkF m 18 #[.val (.ref a1), .val (.int p1), .val (.long q1), .second, .val (.long q2), .second, .val (.int p3), .val (.long (own_bit p1)), .second, .val (.int (0 : Int32)), .unset, .unset] [(.ref ts)])) t := fun t k => by
    refine XS.iload X273.here hx rfl (hb hby d3_18) rfl ?_
    exact k
  refine WP.st bk274 ?_
  clear bk274
  obtain ⟨cl275, Ar275, hin275, hat275, -⟩ := V_ts.rd (j := (0 : Int32)) ⟨by decide, by decide⟩
  replace hat275 : cl275.slots[((0 : Int32)).toNatClampNeg]? = some (.long wv) := hat275
  have bk276 : ∀ t, Steps p.tables e below (T273.setTop (mkF m 42 #[.val (.ref a1), .val (.int p1), .val (.long q1), .second, .val (.long q2), .second, .val (.int p3), .val (.long (own_bit p1)), .second, .val (.int (0 : Int32)), .val (.int (1 : Int32)), .unset] [(.ref a1)])) t → Steps p.tables e below (T273.setTop (mkF m 20 #[.val (.ref a1), .val (.int p1), .val (.long q1), .second, .val (.long q2), .second, .val (.int p3), .val (.long (own_bit p1)), .second, .val (.int (0 : Int32)), .unset, .unset] [(.int (0 : Int32)), (.ref ts)])) t := fun t k => by
    refine X273.laload hx (j := (0 : Int32)) (v := (.long wv)) (by rw [e273]; exact Ar275.1) (State.isArrayOf_alike hZ.alike Ar275.2.1) Ar275.2.2 hin275 hat275 (g := (mkF m 20 #[.val (.ref a1), .val (.int p1), .val (.long q1), .second, .val (.long q2), .second, .val (.int p3), .val (.long (own_bit p1)), .second, .val (.int (0 : Int32)), .unset, .unset] [(.int (0 : Int32)), (.ref ts)])) rfl rfl (hb hby d3_20) _ ?_
    refine XS.lload X273.here hx rfl (hb hby d3_21) rfl ?_
    refine XS.land X273.here hx rfl (hb hby d3_23) rfl ?_
    refine XS.lconst X273.here hx rfl (hb hby d3_24) ?_
    show Steps p.tables e below (T273.setTop (mkF m 25 #[.val (.ref a1), .val (.int p1), .val (.long q1), .second, .val (.long q2), .second, .val (.int p3), .val (.long (own_bit p1)), .second, .val (.int (0 : Int32)), .unset, .unset] [(.long (0 : Int64)), (.long (wv &&& (own_bit p1)))])) t
    refine XS.lcmp X273.here hx rfl (hb hby d3_25) rfl ?_
    refine XS.ifNo X273.here hx rfl (hb hby d3_26) rfl ((if0 _ _).trans (teq hfirst).2) ?_
    refine XS.iconst X273.here hx rfl (hb hby d3_29) ?_
    refine XS.goto X273.here hx rfl (pc0 := 30) (pc' := 34) rfl (hb hby d3_30) (by decide) (by decide) ?_
    show Steps p.tables e below (T273.setTop (mkF m 34 #[.val (.ref a1), .val (.int p1), .val (.long q1), .second, .val (.long q2), .second, .val (.int p3), .val (.long (own_bit p1)), .second, .val (.int (0 : Int32)), .unset, .unset] [(.int (1 : Int32))])) t
    refine XS.istore X273.here hx rfl (hb hby d3_34) rfl (l' := #[.val (.ref a1), .val (.int p1), .val (.long q1), .second, .val (.long q2), .second, .val (.int p3), .val (.long (own_bit p1)), .second, .val (.int (0 : Int32)), .val (.int (1 : Int32)), .unset]) rfl ?_
    refine XS.iload X273.here hx rfl (hb hby d3_36) rfl ?_
    refine XS.ifNo X273.here hx rfl (hb hby d3_38) rfl ((if0 _ _).trans (feq (by decide : ¬ ((1 : Int32) = (0 : Int32)))).1) ?_
    refine XS.aloadN X273.here hx rfl (hb hby d3_41) rfl rfl ?_
    exact k
  refine WP.st bk276 ?_
  clear bk276
  obtain ⟨T277, X277, e277, st277⟩ := getF X273 hx hZ hown (host := "") (Or.inl (hw _ (List.mem_of_getElem? (i := 17) rfl))) Via.refl e273 F_a1_seen (g := (mkF m 42 #[.val (.ref a1), .val (.int p1), .val (.long q1), .second, .val (.long q2), .second, .val (.int p3), .val (.long (own_bit p1)), .second, .val (.int (0 : Int32)), .val (.int (1 : Int32)), .unset] [(.ref a1)])) rfl rfl (hb hby d3_42)
  refine WP.st st277 ?_
  clear st277
  show WP p.tables e below _ T277 (mkF m 45 #[.val (.ref a1), .val (.int p1), .val (.long q1), .second, .val (.long q2), .second, .val (.int p3), .val (.long (own_bit p1)), .second, .val (.int (0 : Int32)), .val (.int (1 : Int32)), .unset] [(.ref ts)])
  have bk278 : ∀ t, Steps p.tables e below (T277.setTop (mkF m 48 #[.val (.ref a1), .val (.int p1), .val (.long q1), .second, .val (.long q2), .second, .val (.int p3), .val (.long (own_bit p1)), .second, .val (.int (0 : Int32)), .val (.int (1 : Int32)), .unset] [(.int (0 : Int32)), (.ref ts), (.int (0 : Int32)), (.ref ts)])) t → Steps p.tables e below (T277.setTop (mkF m 45 #[.val (.ref a1), .val (.int p1), .val (.long q1), .second, .val (.long q2), .second, .val (.int p3), .val (.long (own_bit p1)), .second, .val (.int (0 : Int32)), .val (.int (1 : Int32)), .unset] [(.ref ts)])) t := fun t k => by
    refine XS.iload X277.here hx rfl (hb hby d3_45) rfl ?_
    refine Jvm.Free.XT.dup2 X277.here hx rfl (hb hby d3_47) rfl rfl rfl ?_
    exact k
  refine WP.st bk278 ?_
  clear bk278
  obtain ⟨cl279, Ar279, hin279, hat279, -⟩ := V_ts.rd (j := (0 : Int32)) ⟨by decide, by decide⟩
  replace hat279 : cl279.slots[((0 : Int32)).toNatClampNeg]? = some (.long wv) := hat279
  have bk280 : ∀ t, Steps p.tables e below (T277.setTop (mkF m 52 #[.val (.ref a1), .val (.int p1), .val (.long q1), .second, .val (.long q2), .second, .val (.int p3), .val (.long (own_bit p1)), .second, .val (.int (0 : Int32)), .val (.int (1 : Int32)), .unset] [(.long (wv ||| (own_bit p1))), (.int (0 : Int32)), (.ref ts)])) t → Steps p.tables e below (T277.setTop (mkF m 48 #[.val (.ref a1), .val (.int p1), .val (.long q1), .second, .val (.long q2), .second, .val (.int p3), .val (.long (own_bit p1)), .second, .val (.int (0 : Int32)), .val (.int (1 : Int32)), .unset] [(.int (0 : Int32)), (.ref ts), (.int (0 : Int32)), (.ref ts)])) t := fun t k => by
    refine X277.laload hx (j := (0 : Int32)) (v := (.long wv)) (by rw [e277]; exact Ar279.1) (State.isArrayOf_alike hZ.alike Ar279.2.1) Ar279.2.2 hin279 hat279 (g := (mkF m 48 #[.val (.ref a1), .val (.int p1), .val (.long q1), .second, .val (.long q2), .second, .val (.int p3), .val (.long (own_bit p1)), .second, .val (.int (0 : Int32)), .val (.int (1 : Int32)), .unset] [(.int (0 : Int32)), (.ref ts), (.int (0 : Int32)), (.ref ts)])) rfl rfl (hb hby d3_48) _ ?_
    refine XS.lload X277.here hx rfl (hb hby d3_49) rfl ?_
    refine XS.lor X277.here hx rfl (hb hby d3_51) rfl ?_
    exact k
  refine WP.st bk280 ?_
  clear bk280
  obtain ⟨cl281, Ar281, q281, S281, N281, H281, G281⟩ := V_ts
  have hin281 : ¬ ((0 : Int32) < 0 ∨ cl281.slots.size ≤ ((0 : Int32)).toNatClampNeg) := inb_of S281 ⟨by decide, by decide⟩
  obtain ⟨T282, h282, X282, e282, W282, st282⟩ := stJ X277 hx hZ e277 Ar281 (j := (0 : Int32)) hin281 (g := (mkF m 52 #[.val (.ref a1), .val (.int p1), .val (.long q1), .second, .val (.long q2), .second, .val (.int p3), .val (.long (own_bit p1)), .second, .val (.int (0 : Int32)), .val (.int (1 : Int32)), .unset] [(.long (wv ||| (own_bit p1))), (.int (0 : Int32)), (.ref ts)])) rfl rfl (hb hby d3_52)
  refine WP.st st282 ?_
  clear st282
  have Vn : Arv Z h282 ts ks .long (1 : Int32) [(.long (wv ||| (own_bit p1)))] (.long (0 : Int64)) := Arv.set Ar281 q281 S281 N281 H281 G281 rfl W282 0 rfl (Nat.le_of_ble_eq_true rfl)
  replace E_a1 := E_a1.wr W282
  replace F_a1_highestSequence := F_a1_highestSequence.other W282 (Or.inl ne_a1_ts)
  replace F_a1_messages := F_a1_messages.other W282 (Or.inl ne_a1_ts)
  replace F_a1_delivered := F_a1_delivered.other W282 (Or.inl ne_a1_ts)
  replace F_a1_late := F_a1_late.other W282 (Or.inl ne_a1_ts)
  replace F_a1_outOfOrder := F_a1_outOfOrder.other W282 (Or.inl ne_a1_ts)
  replace F_a1_duplicated := F_a1_duplicated.other W282 (Or.inl ne_a1_ts)
  replace F_a1_lastDeliveryNanos := F_a1_lastDeliveryNanos.other W282 (Or.inl ne_a1_ts)
  replace F_a1_seen := F_a1_seen.other W282 (Or.inl ne_a1_ts)
  replace F_a1_latenciesMicros := F_a1_latenciesMicros.other W282 (Or.inl ne_a1_ts)
  replace V_tl := V_tl.other W282 ne_tl_ts
  replace Z0 := Nat.le_trans Z0 (Keep.of_wr W282).1
  replace KP := KP.wr W282 (Or.inl (List.mem_of_getElem? (i := 1) rfl))
  replace V_ts := Vn
  replace NF := Fr.snoc X282 NF g_ts
  clear W282 hin281 q281 S281 N281 H281 G281 Ar281
  show WP p.tables e below _ T282 (mkF m 53 #[.val (.ref a1), .val (.int p1), .val (.long q1), .second, .val (.long q2), .second, .val (.int p3), .val (.long (own_bit p1)), .second, .val (.int (0 : Int32)), .val (.int (1 : Int32)), .unset] [])
  have bk283 : ∀ t, Steps p.tables e below (T282.setTop (mkF m 55 #[.val (.ref a1), .val (.int p1), .val (.long q1), .second, .val (.long q2), .second, .val (.int p3), .val (.long (own_bit p1)), .second, .val (.int (0 : Int32)), .val (.int (1 : Int32)), .unset] [(.ref a1), (.int p1)])) t → Steps p.tables e below (T282.setTop (mkF m 53 #[.val (.ref a1), .val (.int p1), .val (.long q1), .second, .val (.long q2), .second, .val (.int p3), .val (.long (own_bit p1)), .second, .val (.int (0 : Int32)), .val (.int (1 : Int32)), .unset] [])) t := fun t k => by
    refine XS.iloadN X282.here hx rfl (hb hby d3_53) rfl ?_
    refine XS.aloadN X282.here hx rfl (hb hby d3_54) rfl rfl ?_
    exact k
  refine WP.st bk283 ?_
  clear bk283
  obtain ⟨T284, X284, e284, st284⟩ := getF X282 hx hZ hown (host := "") (Or.inl (hw _ (List.mem_of_getElem? (i := 9) rfl))) Via.refl e282 F_a1_highestSequence (g := (mkF m 55 #[.val (.ref a1), .val (.int p1), .val (.long q1), .second, .val (.long q2), .second, .val (.int p3), .val (.long (own_bit p1)), .second, .val (.int (0 : Int32)), .val (.int (1 : Int32)), .unset] [(.ref a1), (.int p1)])) rfl rfl (hb hby d3_55)
  refine WP.st st284 ?_
  clear st284
  show WP p.tables e below _ T284 (mkF m 58 #[.val (.ref a1), .val (.int p1), .val (.long q1), .second, .val (.long q2), .second, .val (.int p3), .val (.long (own_bit p1)), .second, .val (.int (0 : Int32)), .val (.int (1 : Int32)), .unset] [(.int u_highestSequence), (.int p1)])
  by_cases hc285 : p1 < u_highestSequence
  · skip
    have bk286 : ∀ t, Steps p.tables e below (T284.setTop (mkF m 63 #[.val (.ref a1), .val (.int p1), .val (.long q1), .second, .val (.long q2), .second, .val (.int p3), .val (.long (own_bit p1)), .second, .val (.int (0 : Int32)), .val (.int (1 : Int32)), .unset] [(.ref a1), (.ref a1)])) t → Steps p.tables e below (T284.setTop (mkF m 58 #[.val (.ref a1), .val (.int p1), .val (.long q1), .second, .val (.long q2), .second, .val (.int p3), .val (.long (own_bit p1)), .second, .val (.int (0 : Int32)), .val (.int (1 : Int32)), .unset] [(.int u_highestSequence), (.int p1)])) t := fun t k => by
      refine XS.icmpNo X284.here hx rfl (hb hby d3_58) rfl (tlt hc285).2.1 ?_
      refine XS.aloadN X284.here hx rfl (hb hby d3_61) rfl rfl ?_
      refine XS.dup X284.here hx rfl (hb hby d3_62) rfl rfl ?_
      exact k
    refine WP.st bk286 ?_
    clear bk286
    obtain ⟨T287, X287, e287, st287⟩ := getF X284 hx hZ hown (host := "") (Or.inl (hw _ (List.mem_of_getElem? (i := 43) rfl))) Via.refl e284 F_a1_outOfOrder (g := (mkF m 63 #[.val (.ref a1), .val (.int p1), .val (.long q1), .second, .val (.long q2), .second, .val (.int p3), .val (.long (own_bit p1)), .second, .val (.int (0 : Int32)), .val (.int (1 : Int32)), .unset] [(.ref a1), (.ref a1)])) rfl rfl (hb hby d3_63)
    refine WP.st st287 ?_
    clear st287
    show WP p.tables e below _ T287 (mkF m 66 #[.val (.ref a1), .val (.int p1), .val (.long q1), .second, .val (.long q2), .second, .val (.int p3), .val (.long (own_bit p1)), .second, .val (.int (0 : Int32)), .val (.int (1 : Int32)), .unset] [(.long u_outOfOrder), (.ref a1)])
    have bk288 : ∀ t, Steps p.tables e below (T287.setTop (mkF m 68 #[.val (.ref a1), .val (.int p1), .val (.long q1), .second, .val (.long q2), .second, .val (.int p3), .val (.long (own_bit p1)), .second, .val (.int (0 : Int32)), .val (.int (1 : Int32)), .unset] [(.long (u_outOfOrder + (1 : Int64))), (.ref a1)])) t → Steps p.tables e below (T287.setTop (mkF m 66 #[.val (.ref a1), .val (.int p1), .val (.long q1), .second, .val (.long q2), .second, .val (.int p3), .val (.long (own_bit p1)), .second, .val (.int (0 : Int32)), .val (.int (1 : Int32)), .unset] [(.long u_outOfOrder), (.ref a1)])) t := fun t k => by
      refine XS.lconst X287.here hx rfl (hb hby d3_66) ?_
      refine XS.ladd X287.here hx rfl (hb hby d3_67) rfl ?_
      exact k
    refine WP.st bk288 ?_
    clear bk288
    obtain ⟨T289, h289, X289, e289, W289, st289⟩ := putF X287 hx hZ hown (host := "") (Or.inl (hw _ (List.mem_of_getElem? (i := 43) rfl))) Via.refl e287 F_a1_outOfOrder E_a1 (Or.inl (hw _ (List.mem_of_getElem? (i := 44) rfl))) (hw _ (List.mem_of_getElem? (i := 1) rfl)) (ty := .long) (by decide) rfl rfl (g := (mkF m 68 #[.val (.ref a1), .val (.int p1), .val (.long q1), .second, .val (.long q2), .second, .val (.int p3), .val (.long (own_bit p1)), .second, .val (.int (0 : Int32)), .val (.int (1 : Int32)), .unset] [(.long (u_outOfOrder + (1 : Int64))), (.ref a1)])) rfl rfl (hb hby d3_68)
    refine WP.st st289 ?_
    clear st289
    replace E_a1 := E_a1.wr W289
    replace F_a1_highestSequence := F_a1_highestSequence.other W289 (Or.inr (sn_32 hw))
    replace F_a1_messages := F_a1_messages.other W289 (Or.inr (sn_33 hw))
    replace F_a1_delivered := F_a1_delivered.other W289 (Or.inr (sn_34 hw))
    replace F_a1_late := F_a1_late.other W289 (Or.inr (sn_35 hw))
    replace F_a1_outOfOrder := F_a1_outOfOrder.same W289
    replace F_a1_duplicated := F_a1_duplicated.other W289 (Or.inr (sn_36 hw))
    replace F_a1_lastDeliveryNanos := F_a1_lastDeliveryNanos.other W289 (Or.inr (sn_37 hw))
    replace F_a1_seen := F_a1_seen.other W289 (Or.inr (sn_38 hw))
    replace F_a1_latenciesMicros := F_a1_latenciesMicros.other W289 (Or.inr (sn_39 hw))
    replace V_tl := V_tl.other W289 (Ne.symm ne_a1_tl)
    replace V_ts := V_ts.other W289 (Ne.symm ne_a1_ts)
    replace Z0 := Nat.le_trans Z0 (Keep.of_wr W289).1
    replace KP := KP.wr W289 (Or.inl (List.mem_of_getElem? (i := 0) rfl))
    replace NF := Fr.snoc X289 NF g_a1
    clear W289
    show WP p.tables e below _ T289 (mkF m 71 #[.val (.ref a1), .val (.int p1), .val (.long q1), .second, .val (.long q2), .second, .val (.int p3), .val (.long (own_bit p1)), .second, .val (.int (0 : Int32)), .val (.int (1 : Int32)), .unset] [])
    have bk290 : ∀ t, Steps p.tables e below (T289.setTop (mkF m 80 #[.val (.ref a1), .val (.int p1), .val (.long q1), .second, .val (.long q2), .second, .val (.int p3), .val (.long (own_bit p1)), .second, .val (.int (0 : Int32)), .val (.int (1 : Int32)), .unset] [(.ref a1)])) t → Steps p.tables e below (T289.setTop (mkF m 71 #[.val (.ref a1), .val (.int p1), .val (.long q1), .second, .val (.long q2), .second, .val (.int p3), .val (.long (own_bit p1)), .second, .val (.int (0 : Int32)), .val (.int (1 : Int32)), .unset] [])) t := fun t k => by
      refine XS.goto X289.here hx rfl (pc0 := 71) (pc' := 79) rfl (hb hby d3_71) (by decide) (by decide) ?_
      refine XS.aloadN X289.here hx rfl (hb hby d3_79) rfl rfl ?_
      exact k
    refine WP.st bk290 ?_
    clear bk290
    obtain ⟨T291, X291, e291, st291⟩ := getF X289 hx hZ hown (host := "") (Or.inl (hw _ (List.mem_of_getElem? (i := 24) rfl))) Via.refl e289 F_a1_delivered (g := (mkF m 80 #[.val (.ref a1), .val (.int p1), .val (.long q1), .second, .val (.long q2), .second, .val (.int p3), .val (.long (own_bit p1)), .second, .val (.int (0 : Int32)), .val (.int (1 : Int32)), .unset] [(.ref a1)])) rfl rfl (hb hby d3_80)
    refine WP.st st291 ?_
    clear st291
    show WP p.tables e below _ T291 (mkF m 83 #[.val (.ref a1), .val (.int p1), .val (.long q1), .second, .val (.long q2), .second, .val (.int p3), .val (.long (own_bit p1)), .second, .val (.int (0 : Int32)), .val (.int (1 : Int32)), .unset] [(.long u_delivered)])
    have bk292 : ∀ t, Steps p.tables e below (T291.setTop (mkF m 84 #[.val (.ref a1), .val (.int p1), .val (.long q1), .second, .val (.long q2), .second, .val (.int p3), .val (.long (own_bit p1)), .second, .val (.int (0 : Int32)), .val (.int (1 : Int32)), .unset] [(.ref a1), (.long u_delivered)])) t → Steps p.tables e below (T291.setTop (mkF m 83 #[.val (.ref a1), .val (.int p1), .val (.long q1), .second, .val (.long q2), .second, .val (.int p3), .val (.long (own_bit p1)), .second, .val (.int (0 : Int32)), .val (.int (1 : Int32)), .unset] [(.long u_delivered)])) t := fun t k => by
      refine XS.aloadN X291.here hx rfl (hb hby d3_83) rfl rfl ?_
      exact k
    refine WP.st bk292 ?_
    clear bk292
    obtain ⟨T293, X293, e293, st293⟩ := getF X291 hx hZ hown (host := "") (Or.inl (hw _ (List.mem_of_getElem? (i := 26) rfl))) Via.refl e291 F_a1_late (g := (mkF m 84 #[.val (.ref a1), .val (.int p1), .val (.long q1), .second, .val (.long q2), .second, .val (.int p3), .val (.long (own_bit p1)), .second, .val (.int (0 : Int32)), .val (.int (1 : Int32)), .unset] [(.ref a1), (.long u_delivered)])) rfl rfl (hb hby d3_84)
    refine WP.st st293 ?_
    clear st293
    show WP p.tables e below _ T293 (mkF m 87 #[.val (.ref a1), .val (.int p1), .val (.long q1), .second, .val (.long q2), .second, .val (.int p3), .val (.long (own_bit p1)), .second, .val (.int (0 : Int32)), .val (.int (1 : Int32)), .unset] [(.long u_late), (.long u_delivered)])
    have bk294 : ∀ t, Steps p.tables e below (T293.setTop (mkF m 89 #[.val (.ref a1), .val (.int p1), .val (.long q1), .second, .val (.long q2), .second, .val (.int p3), .val (.long (own_bit p1)), .second, .val (.int (0 : Int32)), .val (.int (1 : Int32)), .unset] [(.int ((u_delivered + u_late).toInt32))])) t → Steps p.tables e below (T293.setTop (mkF m 87 #[.val (.ref a1), .val (.int p1), .val (.long q1), .second, .val (.long q2), .second, .val (.int p3), .val (.long (own_bit p1)), .second, .val (.int (0 : Int32)), .val (.int (1 : Int32)), .unset] [(.long u_late), (.long u_delivered)])) t := fun t k => by
      refine XS.ladd X293.here hx rfl (hb hby d3_87) rfl ?_
      refine XS.l2i X293.here hx rfl (hb hby d3_88) rfl ?_
      exact k
    refine WP.st bk294 ?_
    clear bk294
    rw [show ((u_delivered + u_late).toInt32) = (2 : Int32) from by rw [hde]; decide]
    show WP p.tables e below _ T293 (mkF m 89 #[.val (.ref a1), .val (.int p1), .val (.long q1), .second, .val (.long q2), .second, .val (.int p3), .val (.long (own_bit p1)), .second, .val (.int (0 : Int32)), .val (.int (1 : Int32)), .unset] [(.int (2 : Int32))])
    have bk295 : ∀ t, Steps p.tables e below (T293.setTop (mkF m 94 #[.val (.ref a1), .val (.int p1), .val (.long q1), .second, .val (.long q2), .second, .val (.int p3), .val (.long (own_bit p1)), .second, .val (.int (0 : Int32)), .val (.int (1 : Int32)), .val (.int (2 : Int32))] [(.ref a1), (.int (2 : Int32))])) t → Steps p.tables e below (T293.setTop (mkF m 89 #[.val (.ref a1), .val (.int p1), .val (.long q1), .second, .val (.long q2), .second, .val (.int p3), .val (.long (own_bit p1)), .second, .val (.int (0 : Int32)), .val (.int (1 : Int32)), .unset] [(.int (2 : Int32))])) t := fun t k => by
      refine XS.istore X293.here hx rfl (hb hby d3_89) rfl (l' := #[.val (.ref a1), .val (.int p1), .val (.long q1), .second, .val (.long q2), .second, .val (.int p3), .val (.long (own_bit p1)), .second, .val (.int (0 : Int32)), .val (.int (1 : Int32)), .val (.int (2 : Int32))]) rfl ?_
      refine XS.iload X293.here hx rfl (hb hby d3_91) rfl ?_
      refine XS.aloadN X293.here hx rfl (hb hby d3_93) rfl rfl ?_
      exact k
    refine WP.st bk295 ?_
    clear bk295
    obtain ⟨T296, X296, e296, st296⟩ := getF X293 hx hZ hown (host := "") (Or.inl (hw _ (List.mem_of_getElem? (i := 12) rfl))) Via.refl e293 F_a1_latenciesMicros (g := (mkF m 94 #[.val (.ref a1), .val (.int p1), .val (.long q1), .second, .val (.long q2), .second, .val (.int p3), .val (.long (own_bit p1)), .second, .val (.int (0 : Int32)), .val (.int (1 : Int32)), .val (.int (2 : Int32))] [(.ref a1), (.int (2 : Int32))])) rfl rfl (hb hby d3_94)
    refine WP.st st296 ?_
    clear st296
    show WP p.tables e below _ T296 (mkF m 97 #[.val (.ref a1), .val (.int p1), .val (.long q1), .second, .val (.long q2), .second, .val (.int p3), .val (.long (own_bit p1)), .second, .val (.int (0 : Int32)), .val (.int (1 : Int32)), .val (.int (2 : Int32))] [(.ref tl), (.int (2 : Int32))])
    obtain ⟨cl297, Ar297, len297⟩ := V_tl.len
    have bk298 : ∀ t, Steps p.tables e below (T296.setTop (mkF m 120 #[.val (.ref a1), .val (.int p1), .val (.long q1), .second, .val (.long q2), .second, .val (.int p3), .val (.long (own_bit p1)), .second, .val (.int (0 : Int32)), .val (.int (1 : Int32)), .val (.int (2 : Int32))] [(.ref a1)])) t → Steps p.tables e below (T296.setTop (mkF m 97 #[.val (.ref a1), .val (.int p1), .val (.long q1), .second, .val (.long q2), .second, .val (.int p3), .val (.long (own_bit p1)), .second, .val (.int (0 : Int32)), .val (.int (1 : Int32)), .val (.int (2 : Int32))] [(.ref tl), (.int (2 : Int32))])) t := fun t k => by
      refine X296.arraylength hx (by rw [e296]; exact Ar297.1) (State.isArrayOf_alike hZ.alike Ar297.2.1) (g := (mkF m 97 #[.val (.ref a1), .val (.int p1), .val (.long q1), .second, .val (.long q2), .second, .val (.int p3), .val (.long (own_bit p1)), .second, .val (.int (0 : Int32)), .val (.int (1 : Int32)), .val (.int (2 : Int32))] [(.ref tl), (.int (2 : Int32))])) rfl rfl (hb hby d3_97) _ ?_
      rw [len297]
      refine XS.icmpYes X296.here hx rfl (pc0 := 98) (pc' := 119) rfl (hb hby d3_98) rfl (feq (by decide : ¬ ((2 : Int32) = (16 : Int32)))).2 (by decide) (by decide) ?_
      refine XS.aloadN X296.here hx rfl (hb hby d3_119) rfl rfl ?_
      exact k
    refine WP.st bk298 ?_
    clear bk298
    obtain ⟨T299, X299, e299, st299⟩ := getF X296 hx hZ hown (host := "") (Or.inl (hw _ (List.mem_of_getElem? (i := 12) rfl))) Via.refl e296 F_a1_latenciesMicros (g := (mkF m 120 #[.val (.ref a1), .val (.int p1), .val (.long q1), .second, .val (.long q2), .second, .val (.int p3), .val (.long (own_bit p1)), .second, .val (.int (0 : Int32)), .val (.int (1 : Int32)), .val (.int (2 : Int32))] [(.ref a1)])) rfl rfl (hb hby d3_120)
    refine WP.st st299 ?_
    clear st299
    show WP p.tables e below _ T299 (mkF m 123 #[.val (.ref a1), .val (.int p1), .val (.long q1), .second, .val (.long q2), .second, .val (.int p3), .val (.long (own_bit p1)), .second, .val (.int (0 : Int32)), .val (.int (1 : Int32)), .val (.int (2 : Int32))] [(.ref tl)])
    have bk300 : ∀ t, Steps p.tables e below (T299.setTop (mkF m 134 #[.val (.ref a1), .val (.int p1), .val (.long q1), .second, .val (.long q2), .second, .val (.int p3), .val (.long (own_bit p1)), .second, .val (.int (0 : Int32)), .val (.int (1 : Int32)), .val (.int (2 : Int32))] [(.long (q1 / (1000 : Int64))), (.long (0 : Int64)), (.long (2147483647 : Int64)), (.int (2 : Int32)), (.ref tl)])) t → Steps p.tables e below (T299.setTop (mkF m 123 #[.val (.ref a1), .val (.int p1), .val (.long q1), .second, .val (.long q2), .second, .val (.int p3), .val (.long (own_bit p1)), .second, .val (.int (0 : Int32)), .val (.int (1 : Int32)), .val (.int (2 : Int32))] [(.ref tl)])) t := fun t k => by
      refine XS.iload X299.here hx rfl (hb hby d3_123) rfl ?_
      refine X299.ldc2Long hx hown (mvT hZ (hw _ (List.mem_of_getElem? (i := 28) rfl))) (g := (mkF m 125 #[.val (.ref a1), .val (.int p1), .val (.long q1), .second, .val (.long q2), .second, .val (.int p3), .val (.long (own_bit p1)), .second, .val (.int (0 : Int32)), .val (.int (1 : Int32)), .val (.int (2 : Int32))] [(.int (2 : Int32)), (.ref tl)])) rfl (hb hby d3_125) _ ?_
      refine XS.lconst X299.here hx rfl (hb hby d3_128) ?_
      refine XS.lloadN X299.here hx rfl (hb hby d3_129) rfl ?_
      show Steps p.tables e below (T299.setTop (mkF m 130 #[.val (.ref a1), .val (.int p1), .val (.long q1), .second, .val (.long q2), .second, .val (.int p3), .val (.long (own_bit p1)), .second, .val (.int (0 : Int32)), .val (.int (1 : Int32)), .val (.int (2 : Int32))] [(.long q1), (.long (0 : Int64)), (.long (2147483647 : Int64)), (.int (2 : Int32)), (.ref tl)])) t
      refine X299.ldc2Long hx hown (mvT hZ (hw _ (List.mem_of_getElem? (i := 29) rfl))) (g := (mkF m 130 #[.val (.ref a1), .val (.int p1), .val (.long q1), .second, .val (.long q2), .second, .val (.int p3), .val (.long (own_bit p1)), .second, .val (.int (0 : Int32)), .val (.int (1 : Int32)), .val (.int (2 : Int32))] [(.long q1), (.long (0 : Int64)), (.long (2147483647 : Int64)), (.int (2 : Int32)), (.ref tl)])) rfl (hb hby d3_130) _ ?_
      refine XS.ldiv X299.here hx rfl (hb hby d3_133) rfl (by decide) ?_
      exact k
    refine WP.st bk300 ?_
    clear bk300
    obtain ⟨_, _, ⟨T301, L301, k301, n301⟩, -, X301, ⟨Lc301, hQ301, l301, y301, z301⟩, st301⟩ := Jvm.LawKit.callS X299 hx (y := (⟨"java/lang/Math", "max", "(JJ)J"⟩ : MethodName)) hown (mvT hZ (hw _ (List.mem_of_getElem? (i := 30) rfl))) (mvT hZ (hw _ (List.mem_of_getElem? (i := 31) rfl))) (mvT hZ (hw _ (List.mem_of_getElem? (i := 32) rfl))) (mvT hZ (hw _ (List.mem_of_getElem? (i := 33) rfl))) (by decide) (backOf (W := 4) (rm4 l Z a0 hw [] (0 : Int64) (q1 / (1000 : Int64)) h289 n0 Z0 ) hZ (hw _ (List.mem_of_getElem? (i := 33) rfl)) (hw _ (List.mem_of_getElem? (i := 32) rfl)) (by decide) (by decide)) (g := (mkF m 134 #[.val (.ref a1), .val (.int p1), .val (.long q1), .second, .val (.long q2), .second, .val (.int p3), .val (.long (own_bit p1)), .second, .val (.int (0 : Int32)), .val (.int (1 : Int32)), .val (.int (2 : Int32))] [(.long (q1 / (1000 : Int64))), (.long (0 : Int64)), (.long (2147483647 : Int64)), (.int (2 : Int32)), (.ref tl)])) rfl (by rw [hml]; rfl) (argsL := [(.long (0 : Int64)), (.long (q1 / (1000 : Int64)))]) (rest := [(.long (2147483647 : Int64)), (.int (2 : Int32)), (.ref tl)]) (lenOf pd_2 rfl) rfl (by show 2 * 0 + _ ≤ _; exact Nat.le_of_eq rfl) (hb hby d3_134) (fun _ _ => ⟨rfl, e299, (by decide : 0 + 0 ≤ _), (by decide : 0 + 0 ≤ _)⟩)
    dsimp only [Pt.U, Pt.locs, Pt.cells, Pt.slots] at X301 l301 y301 z301 st301 hQ301
    subst l301 y301 z301
    obtain ⟨rfl, Nq301, Kq301⟩ := hQ301
    replace NF := Fr.app NF Nq301
    clear Nq301
    refine WP.st st301 ?_
    clear st301
    replace Kq301 := Kq301.trans (rfl : h289 = h289)
    show WP p.tables e below _ T301 (mkF m 137 #[.val (.ref a1), .val (.int p1), .val (.long q1), .second, .val (.long q2), .second, .val (.int p3), .val (.long (own_bit p1)), .second, .val (.int (0 : Int32)), .val (.int (1 : Int32)), .val (.int (2 : Int32))] [(.long (own_maxl (0 : Int64) (q1 / (1000 : Int64)))), (.long (2147483647 : Int64)), (.int (2 : Int32)), (.ref tl)])
    obtain ⟨_, _, ⟨T302, L302, k302, n302⟩, -, X302, ⟨Lc302, hQ302, l302, y302, z302⟩, st302⟩ := Jvm.LawKit.callS X301 hx (y := (⟨"java/lang/Math", "min", "(JJ)J"⟩ : MethodName)) hown (mvT hZ (hw _ (List.mem_of_getElem? (i := 34) rfl))) (mvT hZ (hw _ (List.mem_of_getElem? (i := 35) rfl))) (mvT hZ (hw _ (List.mem_of_getElem? (i := 32) rfl))) (mvT hZ (hw _ (List.mem_of_getElem? (i := 36) rfl))) (by decide) (backOf (W := 2) (rm5 l Z a0 hw [] (2147483647 : Int64) (own_maxl (0 : Int64) (q1 / (1000 : Int64))) h289 n0 Z0 ) hZ (hw _ (List.mem_of_getElem? (i := 36) rfl)) (hw _ (List.mem_of_getElem? (i := 32) rfl)) (by decide) (by decide)) (g := (mkF m 137 #[.val (.ref a1), .val (.int p1), .val (.long q1), .second, .val (.long q2), .second, .val (.int p3), .val (.long (own_bit p1)), .second, .val (.int (0 : Int32)), .val (.int (1 : Int32)), .val (.int (2 : Int32))] [(.long (own_maxl (0 : Int64) (q1 / (1000 : Int64)))), (.long (2147483647 : Int64)), (.int (2 : Int32)), (.ref tl)])) rfl (by rw [hml]; rfl) (argsL := [(.long (2147483647 : Int64)), (.long (own_maxl (0 : Int64) (q1 / (1000 : Int64))))]) (rest := [(.int (2 : Int32)), (.ref tl)]) (lenOf pd_2 rfl) rfl (by show 2 * 0 + _ ≤ _; exact Nat.le_of_eq rfl) (hb hby d3_137) (fun _ _ => ⟨rfl, Kq301, (by decide : 0 + 0 ≤ _), (by decide : 0 + 0 ≤ _)⟩)
    dsimp only [Pt.U, Pt.locs, Pt.cells, Pt.slots] at X302 l302 y302 z302 st302 hQ302
    subst l302 y302 z302
    obtain ⟨rfl, Nq302, Kq302⟩ := hQ302
    replace NF := Fr.app NF Nq302
    clear Nq302
    refine WP.st st302 ?_
    clear st302
    replace Kq302 := Kq302.trans (rfl : h289 = h289)
    show WP p.tables e below _ T302 (mkF m 140 #[.val (.ref a1), .val (.int p1), .val (.long q1), .second, .val (.long q2), .second, .val (.int p3), .val (.long (own_bit p1)), .second, .val (.int (0 : Int32)), .val (.int (1 : Int32)), .val (.int (2 : Int32))] [(.long (own_minl (2147483647 : Int64) (own_maxl (0 : Int64) (q1 / (1000 : Int64))))), (.int (2 : Int32)), (.ref tl)])
    have bk303 : ∀ t, Steps p.tables e below (T302.setTop (mkF m 141 #[.val (.ref a1), .val (.int p1), .val (.long q1), .second, .val (.long q2), .second, .val (.int p3), .val (.long (own_bit p1)), .second, .val (.int (0 : Int32)), .val (.int (1 : Int32)), .val (.int (2 : Int32))] [(.int ((own_minl (2147483647 : Int64) (own_maxl (0 : Int64) (q1 / (1000 : Int64)))).toInt32)), (.int (2 : Int32)), (.ref tl)])) t → Steps p.tables e below (T302.setTop (mkF m 140 #[.val (.ref a1), .val (.int p1), .val (.long q1), .second, .val (.long q2), .second, .val (.int p3), .val (.long (own_bit p1)), .second, .val (.int (0 : Int32)), .val (.int (1 : Int32)), .val (.int (2 : Int32))] [(.long (own_minl (2147483647 : Int64) (own_maxl (0 : Int64) (q1 / (1000 : Int64))))), (.int (2 : Int32)), (.ref tl)])) t := fun t k => by
      refine XS.l2i X302.here hx rfl (hb hby d3_140) rfl ?_
      exact k
    refine WP.st bk303 ?_
    clear bk303
    rw [show ((own_minl (2147483647 : Int64) (own_maxl (0 : Int64) (q1 / (1000 : Int64)))).toInt32) = (own_lat q1) from rfl]
    show WP p.tables e below _ T302 (mkF m 141 #[.val (.ref a1), .val (.int p1), .val (.long q1), .second, .val (.long q2), .second, .val (.int p3), .val (.long (own_bit p1)), .second, .val (.int (0 : Int32)), .val (.int (1 : Int32)), .val (.int (2 : Int32))] [(.int (own_lat q1)), (.int (2 : Int32)), (.ref tl)])
    obtain ⟨cl304, Ar304, q304, S304, N304, H304, G304⟩ := V_tl
    have hin304 : ¬ ((2 : Int32) < 0 ∨ cl304.slots.size ≤ ((2 : Int32)).toNatClampNeg) := inb_of S304 ⟨by decide, by decide⟩
    obtain ⟨T305, h305, X305, e305, W305, st305⟩ := stI X302 hx hZ Kq302 Ar304 (j := (2 : Int32)) hin304 (g := (mkF m 141 #[.val (.ref a1), .val (.int p1), .val (.long q1), .second, .val (.long q2), .second, .val (.int p3), .val (.long (own_bit p1)), .second, .val (.int (0 : Int32)), .val (.int (1 : Int32)), .val (.int (2 : Int32))] [(.int (own_lat q1)), (.int (2 : Int32)), (.ref tl)])) rfl rfl (hb hby d3_141)
    refine WP.st st305 ?_
    clear st305
    have Vn : Arv Z h305 tl kl .int (16 : Int32) [v0, v1, (.int (own_lat q1)), v3, v4, v5, v6, v7, v8, v9, v10, v11, v12, v13, v14, v15] (.int (0 : Int32)) := Arv.set Ar304 q304 S304 N304 H304 G304 rfl W305 2 rfl (Nat.le_of_ble_eq_true rfl)
    replace E_a1 := E_a1.wr W305
    replace F_a1_highestSequence := F_a1_highestSequence.other W305 (Or.inl ne_a1_tl)
    replace F_a1_messages := F_a1_messages.other W305 (Or.inl ne_a1_tl)
    replace F_a1_delivered := F_a1_delivered.other W305 (Or.inl ne_a1_tl)
    replace F_a1_late := F_a1_late.other W305 (Or.inl ne_a1_tl)
    replace F_a1_outOfOrder := F_a1_outOfOrder.other W305 (Or.inl ne_a1_tl)
    replace F_a1_duplicated := F_a1_duplicated.other W305 (Or.inl ne_a1_tl)
    replace F_a1_lastDeliveryNanos := F_a1_lastDeliveryNanos.other W305 (Or.inl ne_a1_tl)
    replace F_a1_seen := F_a1_seen.other W305 (Or.inl ne_a1_tl)
    replace F_a1_latenciesMicros := F_a1_latenciesMicros.other W305 (Or.inl ne_a1_tl)
    replace V_ts := V_ts.other W305 (Ne.symm ne_tl_ts)
    replace Z0 := Nat.le_trans Z0 (Keep.of_wr W305).1
    replace KP := KP.wr W305 (Or.inl (List.mem_of_getElem? (i := 2) rfl))
    replace V_tl := Vn
    replace NF := Fr.snoc X305 NF g_tl
    clear W305 hin304 q304 S304 N304 H304 G304 Ar304
    show WP p.tables e below _ T305 (mkF m 142 #[.val (.ref a1), .val (.int p1), .val (.long q1), .second, .val (.long q2), .second, .val (.int p3), .val (.long (own_bit p1)), .second, .val (.int (0 : Int32)), .val (.int (1 : Int32)), .val (.int (2 : Int32))] [])
    have bk307 : ∀ t, Steps p.tables e below (T305.setTop (mkF m 144 #[.val (.ref a1), .val (.int p1), .val (.long q1), .second, .val (.long q2), .second, .val (.int p3), .val (.long (own_bit p1)), .second, .val (.int (0 : Int32)), .val (.int (1 : Int32)), .val (.int (2 : Int32))] [(.int p3)])) t → Steps p.tables e below (T305.setTop (mkF m 142 #[.val (.ref a1), .val (.int p1), .val (.long q1), .second, .val (.long q2), .second, .val (.int p3), .val (.long (own_bit p1)), .second, .val (.int (0 : Int32)), .val (.int (1 : Int32)), .val (.int (2 : Int32))] [])) t := fun t k => by
      refine XS.iload X305.here hx rfl (hb hby d3_142) rfl ?_
      exact k
    refine WP.st bk307 ?_
    clear bk307
    by_cases hc306 : p3 = (0 : Int32)
    · skip
      have bk308 : ∀ t, Steps p.tables e below (T305.setTop (mkF m 163 #[.val (.ref a1), .val (.int p1), .val (.long q1), .second, .val (.long q2), .second, .val (.int p3), .val (.long (own_bit p1)), .second, .val (.int (0 : Int32)), .val (.int (1 : Int32)), .val (.int (2 : Int32))] [(.long q2), (.ref a1)])) t → Steps p.tables e below (T305.setTop (mkF m 144 #[.val (.ref a1), .val (.int p1), .val (.long q1), .second, .val (.long q2), .second, .val (.int p3), .val (.long (own_bit p1)), .second, .val (.int (0 : Int32)), .val (.int (1 : Int32)), .val (.int (2 : Int32))] [(.int p3)])) t := fun t k => by
        refine XS.ifYes X305.here hx rfl (pc0 := 144) (pc' := 160) rfl (hb hby d3_144) rfl ((if0 _ _).trans (teq hc306).1) (by decide) (by decide) ?_
        refine XS.aloadN X305.here hx rfl (hb hby d3_160) rfl rfl ?_
        refine XS.lload X305.here hx rfl (hb hby d3_161) rfl ?_
        exact k
      refine WP.st bk308 ?_
      clear bk308
      obtain ⟨T309, h309, X309, e309, W309, st309⟩ := putF X305 hx hZ hown (host := "") (Or.inl (hw _ (List.mem_of_getElem? (i := 65) rfl))) Via.refl e305 F_a1_lastDeliveryNanos E_a1 (Or.inl (hw _ (List.mem_of_getElem? (i := 66) rfl))) (hw _ (List.mem_of_getElem? (i := 1) rfl)) (ty := .long) (by decide) rfl rfl (g := (mkF m 163 #[.val (.ref a1), .val (.int p1), .val (.long q1), .second, .val (.long q2), .second, .val (.int p3), .val (.long (own_bit p1)), .second, .val (.int (0 : Int32)), .val (.int (1 : Int32)), .val (.int (2 : Int32))] [(.long q2), (.ref a1)])) rfl rfl (hb hby d3_163)
      refine WP.st st309 ?_
      clear st309
      replace E_a1 := E_a1.wr W309
      replace F_a1_highestSequence := F_a1_highestSequence.other W309 (Or.inr (sn_40 hw))
      replace F_a1_messages := F_a1_messages.other W309 (Or.inr (sn_41 hw))
      replace F_a1_delivered := F_a1_delivered.other W309 (Or.inr (sn_42 hw))
      replace F_a1_late := F_a1_late.other W309 (Or.inr (sn_43 hw))
      replace F_a1_outOfOrder := F_a1_outOfOrder.other W309 (Or.inr (sn_44 hw))
      replace F_a1_duplicated := F_a1_duplicated.other W309 (Or.inr (sn_45 hw))
      replace F_a1_lastDeliveryNanos := F_a1_lastDeliveryNanos.same W309
      replace F_a1_seen := F_a1_seen.other W309 (Or.inr (sn_46 hw))
      replace F_a1_latenciesMicros := F_a1_latenciesMicros.other W309 (Or.inr (sn_47 hw))
      replace V_ts := V_ts.other W309 (Ne.symm ne_a1_ts)
      replace V_tl := V_tl.other W309 (Ne.symm ne_a1_tl)
      replace Z0 := Nat.le_trans Z0 (Keep.of_wr W309).1
      replace KP := KP.wr W309 (Or.inl (List.mem_of_getElem? (i := 0) rfl))
      replace NF := Fr.snoc X309 NF g_a1
      clear W309
      show WP p.tables e below _ T309 (mkF m 166 #[.val (.ref a1), .val (.int p1), .val (.long q1), .second, .val (.long q2), .second, .val (.int p3), .val (.long (own_bit p1)), .second, .val (.int (0 : Int32)), .val (.int (1 : Int32)), .val (.int (2 : Int32))] [])
      have bk310 : ∀ t, Steps p.tables e below (T309.setTop (mkF m 168 #[.val (.ref a1), .val (.int p1), .val (.long q1), .second, .val (.long q2), .second, .val (.int p3), .val (.long (own_bit p1)), .second, .val (.int (0 : Int32)), .val (.int (1 : Int32)), .val (.int (2 : Int32))] [(.ref a1), (.ref a1)])) t → Steps p.tables e below (T309.setTop (mkF m 166 #[.val (.ref a1), .val (.int p1), .val (.long q1), .second, .val (.long q2), .second, .val (.int p3), .val (.long (own_bit p1)), .second, .val (.int (0 : Int32)), .val (.int (1 : Int32)), .val (.int (2 : Int32))] [])) t := fun t k => by
        refine XS.aloadN X309.here hx rfl (hb hby d3_166) rfl rfl ?_
        refine XS.aloadN X309.here hx rfl (hb hby d3_167) rfl rfl ?_
        exact k
      refine WP.st bk310 ?_
      clear bk310
      obtain ⟨T311, X311, e311, st311⟩ := getF X309 hx hZ hown (host := "") (Or.inl (hw _ (List.mem_of_getElem? (i := 24) rfl))) Via.refl e309 F_a1_delivered (g := (mkF m 168 #[.val (.ref a1), .val (.int p1), .val (.long q1), .second, .val (.long q2), .second, .val (.int p3), .val (.long (own_bit p1)), .second, .val (.int (0 : Int32)), .val (.int (1 : Int32)), .val (.int (2 : Int32))] [(.ref a1), (.ref a1)])) rfl rfl (hb hby d3_168)
      refine WP.st st311 ?_
      clear st311
      show WP p.tables e below _ T311 (mkF m 171 #[.val (.ref a1), .val (.int p1), .val (.long q1), .second, .val (.long q2), .second, .val (.int p3), .val (.long (own_bit p1)), .second, .val (.int (0 : Int32)), .val (.int (1 : Int32)), .val (.int (2 : Int32))] [(.long u_delivered), (.ref a1)])
      have bk312 : ∀ t, Steps p.tables e below (T311.setTop (mkF m 173 #[.val (.ref a1), .val (.int p1), .val (.long q1), .second, .val (.long q2), .second, .val (.int p3), .val (.long (own_bit p1)), .second, .val (.int (0 : Int32)), .val (.int (1 : Int32)), .val (.int (2 : Int32))] [(.long (u_delivered + (1 : Int64))), (.ref a1)])) t → Steps p.tables e below (T311.setTop (mkF m 171 #[.val (.ref a1), .val (.int p1), .val (.long q1), .second, .val (.long q2), .second, .val (.int p3), .val (.long (own_bit p1)), .second, .val (.int (0 : Int32)), .val (.int (1 : Int32)), .val (.int (2 : Int32))] [(.long u_delivered), (.ref a1)])) t := fun t k => by
        refine XS.lconst X311.here hx rfl (hb hby d3_171) ?_
        refine XS.ladd X311.here hx rfl (hb hby d3_172) rfl ?_
        exact k
      refine WP.st bk312 ?_
      clear bk312
      obtain ⟨T313, h313, X313, e313, W313, st313⟩ := putF X311 hx hZ hown (host := "") (Or.inl (hw _ (List.mem_of_getElem? (i := 24) rfl))) Via.refl e311 F_a1_delivered E_a1 (Or.inl (hw _ (List.mem_of_getElem? (i := 25) rfl))) (hw _ (List.mem_of_getElem? (i := 1) rfl)) (ty := .long) (by decide) rfl rfl (g := (mkF m 173 #[.val (.ref a1), .val (.int p1), .val (.long q1), .second, .val (.long q2), .second, .val (.int p3), .val (.long (own_bit p1)), .second, .val (.int (0 : Int32)), .val (.int (1 : Int32)), .val (.int (2 : Int32))] [(.long (u_delivered + (1 : Int64))), (.ref a1)])) rfl rfl (hb hby d3_173)
      refine WP.st st313 ?_
      clear st313
      replace E_a1 := E_a1.wr W313
      replace F_a1_highestSequence := F_a1_highestSequence.other W313 (Or.inr (sn_48 hw))
      replace F_a1_messages := F_a1_messages.other W313 (Or.inr (sn_49 hw))
      replace F_a1_delivered := F_a1_delivered.same W313
      replace F_a1_late := F_a1_late.other W313 (Or.inr (sn_50 hw))
      replace F_a1_outOfOrder := F_a1_outOfOrder.other W313 (Or.inr (sn_51 hw))
      replace F_a1_duplicated := F_a1_duplicated.other W313 (Or.inr (sn_52 hw))
      replace F_a1_lastDeliveryNanos := F_a1_lastDeliveryNanos.other W313 (Or.inr (sn_53 hw))
      replace F_a1_seen := F_a1_seen.other W313 (Or.inr (sn_54 hw))
      replace F_a1_latenciesMicros := F_a1_latenciesMicros.other W313 (Or.inr (sn_55 hw))
      replace V_ts := V_ts.other W313 (Ne.symm ne_a1_ts)
      replace V_tl := V_tl.other W313 (Ne.symm ne_a1_tl)
      replace Z0 := Nat.le_trans Z0 (Keep.of_wr W313).1
      replace KP := KP.wr W313 (Or.inl (List.mem_of_getElem? (i := 0) rfl))
      replace NF := Fr.snoc X313 NF g_a1
      clear W313
      show WP p.tables e below _ T313 (mkF m 176 #[.val (.ref a1), .val (.int p1), .val (.long q1), .second, .val (.long q2), .second, .val (.int p3), .val (.long (own_bit p1)), .second, .val (.int (0 : Int32)), .val (.int (1 : Int32)), .val (.int (2 : Int32))] [])
      have bk314 : ∀ t, Steps p.tables e below (T313.setTop (mkF m 191 #[.val (.ref a1), .val (.int p1), .val (.long q1), .second, .val (.long q2), .second, .val (.int p3), .val (.long (own_bit p1)), .second, .val (.int (0 : Int32)), .val (.int (1 : Int32)), .val (.int (2 : Int32))] [(.int (1 : Int32))])) t → Steps p.tables e below (T313.setTop (mkF m 176 #[.val (.ref a1), .val (.int p1), .val (.long q1), .second, .val (.long q2), .second, .val (.int p3), .val (.long (own_bit p1)), .second, .val (.int (0 : Int32)), .val (.int (1 : Int32)), .val (.int (2 : Int32))] [])) t := fun t k => by
        refine XS.goto X313.here hx rfl (pc0 := 176) (pc' := 189) rfl (hb hby d3_176) (by decide) (by decide) ?_
        refine XS.iload X313.here hx rfl (hb hby d3_189) rfl ?_
        exact k
      refine WP.st bk314 ?_
      clear bk314
      subst hG
      obtain ⟨fs, hr, hrun, hended, hW, hsame⟩ := X313.leave (v := some (.int (1 : Int32))) (fun h => by rw [Bd.returns] at h; cases h)
      refine WP.fin ⟨_, _, ?_, hrun, hended, _, _, rfl, ?_, ⟨_, rfl⟩, hW, hsame.mono (by decide) (by decide)⟩
      · exact retN X313 hx (t := .boolean) Bd.returns (by simp) (hb hby d3_191) hr
      · show Q3f2 Z a1 p1 q1 q2 p3 u_highestSequence u_messages u_delivered u_late u_outOfOrder u_duplicated u_lastDeliveryNanos ts ks tl kl wv v0 v1 v2 v3 v4 v5 v6 v7 v8 v9 v10 v11 v12 v13 v14 v15 h0 n0 _ T313.heap _
        rw [e313]
        exact ⟨(u_delivered + (1 : Int64)), u_late, u_highestSequence, (u_outOfOrder + (1 : Int64)), q2, rfl, NF, KP, F_a1_highestSequence, F_a1_messages, F_a1_delivered, F_a1_late, F_a1_outOfOrder, F_a1_duplicated, F_a1_lastDeliveryNanos, F_a1_seen, F_a1_latenciesMicros, V_ts, V_tl, (by rw [own_d1, hde]; decide)⟩
    · skip
      have bk315 : ∀ t, Steps p.tables e below (T305.setTop (mkF m 149 #[.val (.ref a1), .val (.int p1), .val (.long q1), .second, .val (.long q2), .second, .val (.int p3), .val (.long (own_bit p1)), .second, .val (.int (0 : Int32)), .val (.int (1 : Int32)), .val (.int (2 : Int32))] [(.ref a1), (.ref a1)])) t → Steps p.tables e below (T305.setTop (mkF m 144 #[.val (.ref a1), .val (.int p1), .val (.long q1), .second, .val (.long q2), .second, .val (.int p3), .val (.long (own_bit p1)), .second, .val (.int (0 : Int32)), .val (.int (1 : Int32)), .val (.int (2 : Int32))] [(.int p3)])) t := fun t k => by
        refine XS.ifNo X305.here hx rfl (hb hby d3_144) rfl ((if0 _ _).trans (feq hc306).1) ?_
        refine XS.aloadN X305.here hx rfl (hb hby d3_147) rfl rfl ?_
        refine XS.aloadN X305.here hx rfl (hb hby d3_148) rfl rfl ?_
        exact k
      refine WP.st bk315 ?_
      clear bk315
      obtain ⟨T316, X316, e316, st316⟩ := getF X305 hx hZ hown (host := "") (Or.inl (hw _ (List.mem_of_getElem? (i := 26) rfl))) Via.refl e305 F_a1_late (g := (mkF m 149 #[.val (.ref a1), .val (.int p1), .val (.long q1), .second, .val (.long q2), .second, .val (.int p3), .val (.long (own_bit p1)), .second, .val (.int (0 : Int32)), .val (.int (1 : Int32)), .val (.int (2 : Int32))] [(.ref a1), (.ref a1)])) rfl rfl (hb hby d3_149)
      refine WP.st st316 ?_
      clear st316
      show WP p.tables e below _ T316 (mkF m 152 #[.val (.ref a1), .val (.int p1), .val (.long q1), .second, .val (.long q2), .second, .val (.int p3), .val (.long (own_bit p1)), .second, .val (.int (0 : Int32)), .val (.int (1 : Int32)), .val (.int (2 : Int32))] [(.long u_late), (.ref a1)])
      have bk317 : ∀ t, Steps p.tables e below (T316.setTop (mkF m 154 #[.val (.ref a1), .val (.int p1), .val (.long q1), .second, .val (.long q2), .second, .val (.int p3), .val (.long (own_bit p1)), .second, .val (.int (0 : Int32)), .val (.int (1 : Int32)), .val (.int (2 : Int32))] [(.long (u_late + (1 : Int64))), (.ref a1)])) t → Steps p.tables e below (T316.setTop (mkF m 152 #[.val (.ref a1), .val (.int p1), .val (.long q1), .second, .val (.long q2), .second, .val (.int p3), .val (.long (own_bit p1)), .second, .val (.int (0 : Int32)), .val (.int (1 : Int32)), .val (.int (2 : Int32))] [(.long u_late), (.ref a1)])) t := fun t k => by
        refine XS.lconst X316.here hx rfl (hb hby d3_152) ?_
        refine XS.ladd X316.here hx rfl (hb hby d3_153) rfl ?_
        exact k
      refine WP.st bk317 ?_
      clear bk317
      obtain ⟨T318, h318, X318, e318, W318, st318⟩ := putF X316 hx hZ hown (host := "") (Or.inl (hw _ (List.mem_of_getElem? (i := 26) rfl))) Via.refl e316 F_a1_late E_a1 (Or.inl (hw _ (List.mem_of_getElem? (i := 27) rfl))) (hw _ (List.mem_of_getElem? (i := 1) rfl)) (ty := .long) (by decide) rfl rfl (g := (mkF m 154 #[.val (.ref a1), .val (.int p1), .val (.long q1), .second, .val (.long q2), .second, .val (.int p3), .val (.long (own_bit p1)), .second, .val (.int (0 : Int32)), .val (.int (1 : Int32)), .val (.int (2 : Int32))] [(.long (u_late + (1 : Int64))), (.ref a1)])) rfl rfl (hb hby d3_154)
      refine WP.st st318 ?_
      clear st318
      replace E_a1 := E_a1.wr W318
      replace F_a1_highestSequence := F_a1_highestSequence.other W318 (Or.inr (sn_56 hw))
      replace F_a1_messages := F_a1_messages.other W318 (Or.inr (sn_57 hw))
      replace F_a1_delivered := F_a1_delivered.other W318 (Or.inr (sn_58 hw))
      replace F_a1_late := F_a1_late.same W318
      replace F_a1_outOfOrder := F_a1_outOfOrder.other W318 (Or.inr (sn_59 hw))
      replace F_a1_duplicated := F_a1_duplicated.other W318 (Or.inr (sn_60 hw))
      replace F_a1_lastDeliveryNanos := F_a1_lastDeliveryNanos.other W318 (Or.inr (sn_61 hw))
      replace F_a1_seen := F_a1_seen.other W318 (Or.inr (sn_62 hw))
      replace F_a1_latenciesMicros := F_a1_latenciesMicros.other W318 (Or.inr (sn_63 hw))
      replace V_ts := V_ts.other W318 (Ne.symm ne_a1_ts)
      replace V_tl := V_tl.other W318 (Ne.symm ne_a1_tl)
      replace Z0 := Nat.le_trans Z0 (Keep.of_wr W318).1
      replace KP := KP.wr W318 (Or.inl (List.mem_of_getElem? (i := 0) rfl))
      replace NF := Fr.snoc X318 NF g_a1
      clear W318
      show WP p.tables e below _ T318 (mkF m 157 #[.val (.ref a1), .val (.int p1), .val (.long q1), .second, .val (.long q2), .second, .val (.int p3), .val (.long (own_bit p1)), .second, .val (.int (0 : Int32)), .val (.int (1 : Int32)), .val (.int (2 : Int32))] [])
      have bk319 : ∀ t, Steps p.tables e below (T318.setTop (mkF m 191 #[.val (.ref a1), .val (.int p1), .val (.long q1), .second, .val (.long q2), .second, .val (.int p3), .val (.long (own_bit p1)), .second, .val (.int (0 : Int32)), .val (.int (1 : Int32)), .val (.int (2 : Int32))] [(.int (1 : Int32))])) t → Steps p.tables e below (T318.setTop (mkF m 157 #[.val (.ref a1), .val (.int p1), .val (.long q1), .second, .val (.long q2), .second, .val (.int p3), .val (.long (own_bit p1)), .second, .val (.int (0 : Int32)), .val (.int (1 : Int32)), .val (.int (2 : Int32))] [])) t := fun t k => by
        refine XS.goto X318.here hx rfl (pc0 := 157) (pc' := 176) rfl (hb hby d3_157) (by decide) (by decide) ?_
        refine XS.goto X318.here hx rfl (pc0 := 176) (pc' := 189) rfl (hb hby d3_176) (by decide) (by decide) ?_
        refine XS.iload X318.here hx rfl (hb hby d3_189) rfl ?_
        exact k
      refine WP.st bk319 ?_
      clear bk319
      subst hG
      obtain ⟨fs, hr, hrun, hended, hW, hsame⟩ := X318.leave (v := some (.int (1 : Int32))) (fun h => by rw [Bd.returns] at h; cases h)
      refine WP.fin ⟨_, _, ?_, hrun, hended, _, _, rfl, ?_, ⟨_, rfl⟩, hW, hsame.mono (by decide) (by decide)⟩
      · exact retN X318 hx (t := .boolean) Bd.returns (by simp) (hb hby d3_191) hr
      · show Q3f2 Z a1 p1 q1 q2 p3 u_highestSequence u_messages u_delivered u_late u_outOfOrder u_duplicated u_lastDeliveryNanos ts ks tl kl wv v0 v1 v2 v3 v4 v5 v6 v7 v8 v9 v10 v11 v12 v13 v14 v15 h0 n0 _ T318.heap _
        rw [e318]
        exact ⟨u_delivered, (u_late + (1 : Int64)), u_highestSequence, (u_outOfOrder + (1 : Int64)), u_lastDeliveryNanos, rfl, NF, KP, F_a1_highestSequence, F_a1_messages, F_a1_delivered, F_a1_late, F_a1_outOfOrder, F_a1_duplicated, F_a1_lastDeliveryNanos, F_a1_seen, F_a1_latenciesMicros, V_ts, V_tl, (by rw [own_d2, hde]; decide)⟩
  · skip
    have bk320 : ∀ t, Steps p.tables e below (T284.setTop (mkF m 76 #[.val (.ref a1), .val (.int p1), .val (.long q1), .second, .val (.long q2), .second, .val (.int p3), .val (.long (own_bit p1)), .second, .val (.int (0 : Int32)), .val (.int (1 : Int32)), .unset] [(.int p1), (.ref a1)])) t → Steps p.tables e below (T284.setTop (mkF m 58 #[.val (.ref a1), .val (.int p1), .val (.long q1), .second, .val (.long q2), .second, .val (.int p3), .val (.long (own_bit p1)), .second, .val (.int (0 : Int32)), .val (.int (1 : Int32)), .unset] [(.int u_highestSequence), (.int p1)])) t := fun t k => by
      refine XS.icmpYes X284.here hx rfl (pc0 := 58) (pc' := 74) rfl (hb hby d3_58) rfl (flt hc285).2.1 (by decide) (by decide) ?_
      refine XS.aloadN X284.here hx rfl (hb hby d3_74) rfl rfl ?_
      refine XS.iloadN X284.here hx rfl (hb hby d3_75) rfl ?_
      exact k
    refine WP.st bk320 ?_
    clear bk320
    obtain ⟨T321, h321, X321, e321, W321, st321⟩ := putF X284 hx hZ hown (host := "") (Or.inl (hw _ (List.mem_of_getElem? (i := 9) rfl))) Via.refl e284 F_a1_highestSequence E_a1 (Or.inl (hw _ (List.mem_of_getElem? (i := 10) rfl))) (hw _ (List.mem_of_getElem? (i := 1) rfl)) (ty := .int) (by decide) rfl rfl (g := (mkF m 76 #[.val (.ref a1), .val (.int p1), .val (.long q1), .second, .val (.long q2), .second, .val (.int p3), .val (.long (own_bit p1)), .second, .val (.int (0 : Int32)), .val (.int (1 : Int32)), .unset] [(.int p1), (.ref a1)])) rfl rfl (hb hby d3_76)
    refine WP.st st321 ?_
    clear st321
    replace E_a1 := E_a1.wr W321
    replace F_a1_highestSequence := F_a1_highestSequence.same W321
    replace F_a1_messages := F_a1_messages.other W321 (Or.inr (sn_1 hw))
    replace F_a1_delivered := F_a1_delivered.other W321 (Or.inr (sn_3 hw))
    replace F_a1_late := F_a1_late.other W321 (Or.inr (sn_4 hw))
    replace F_a1_outOfOrder := F_a1_outOfOrder.other W321 (Or.inr (sn_5 hw))
    replace F_a1_duplicated := F_a1_duplicated.other W321 (Or.inr (sn_6 hw))
    replace F_a1_lastDeliveryNanos := F_a1_lastDeliveryNanos.other W321 (Or.inr (sn_7 hw))
    replace F_a1_seen := F_a1_seen.other W321 (Or.inr (sn_2 hw))
    replace F_a1_latenciesMicros := F_a1_latenciesMicros.other W321 (Or.inr (sn_0 hw))
    replace V_tl := V_tl.other W321 (Ne.symm ne_a1_tl)
    replace V_ts := V_ts.other W321 (Ne.symm ne_a1_ts)
    replace Z0 := Nat.le_trans Z0 (Keep.of_wr W321).1
    replace KP := KP.wr W321 (Or.inl (List.mem_of_getElem? (i := 0) rfl))
    replace NF := Fr.snoc X321 NF g_a1
    clear W321
    show WP p.tables e below _ T321 (mkF m 79 #[.val (.ref a1), .val (.int p1), .val (.long q1), .second, .val (.long q2), .second, .val (.int p3), .val (.long (own_bit p1)), .second, .val (.int (0 : Int32)), .val (.int (1 : Int32)), .unset] [])
    have bk322 : ∀ t, Steps p.tables e below (T321.setTop (mkF m 80 #[.val (.ref a1), .val (.int p1), .val (.long q1), .second, .val (.long q2), .second, .val (.int p3), .val (.long (own_bit p1)), .second, .val (.int (0 : Int32)), .val (.int (1 : Int32)), .unset] [(.ref a1)])) t → Steps p.tables e below (T321.setTop (mkF m 79 #[.val (.ref a1), .val (.int p1), .val (.long q1), .second, .val (.long q2), .second, .val (.int p3), .val (.long (own_bit p1)), .second, .val (.int (0 : Int32)), .val (.int (1 : Int32)), .unset] [])) t := fun t k => by
      refine XS.aloadN X321.here hx rfl (hb hby d3_79) rfl rfl ?_
      exact k
    refine WP.st bk322 ?_
    clear bk322
    obtain ⟨T323, X323, e323, st323⟩ := getF X321 hx hZ hown (host := "") (Or.inl (hw _ (List.mem_of_getElem? (i := 24) rfl))) Via.refl e321 F_a1_delivered (g := (mkF m 80 #[.val (.ref a1), .val (.int p1), .val (.long q1), .second, .val (.long q2), .second, .val (.int p3), .val (.long (own_bit p1)), .second, .val (.int (0 : Int32)), .val (.int (1 : Int32)), .unset] [(.ref a1)])) rfl rfl (hb hby d3_80)
    refine WP.st st323 ?_
    clear st323
    show WP p.tables e below _ T323 (mkF m 83 #[.val (.ref a1), .val (.int p1), .val (.long q1), .second, .val (.long q2), .second, .val (.int p3), .val (.long (own_bit p1)), .second, .val (.int (0 : Int32)), .val (.int (1 : Int32)), .unset] [(.long u_delivered)])
    have bk324 : ∀ t, Steps p.tables e below (T323.setTop (mkF m 84 #[.val (.ref a1), .val (.int p1), .val (.long q1), .second, .val (.long q2), .second, .val (.int p3), .val (.long (own_bit p1)), .second, .val (.int (0 : Int32)), .val (.int (1 : Int32)), .unset] [(.ref a1), (.long u_delivered)])) t → Steps p.tables e below (T323.setTop (mkF m 83 #[.val (.ref a1), .val (.int p1), .val (.long q1), .second, .val (.long q2), .second, .val (.int p3), .val (.long (own_bit p1)), .second, .val (.int (0 : Int32)), .val (.int (1 : Int32)), .unset] [(.long u_delivered)])) t := fun t k => by
      refine XS.aloadN X323.here hx rfl (hb hby d3_83) rfl rfl ?_
      exact k
    refine WP.st bk324 ?_
    clear bk324
    obtain ⟨T325, X325, e325, st325⟩ := getF X323 hx hZ hown (host := "") (Or.inl (hw _ (List.mem_of_getElem? (i := 26) rfl))) Via.refl e323 F_a1_late (g := (mkF m 84 #[.val (.ref a1), .val (.int p1), .val (.long q1), .second, .val (.long q2), .second, .val (.int p3), .val (.long (own_bit p1)), .second, .val (.int (0 : Int32)), .val (.int (1 : Int32)), .unset] [(.ref a1), (.long u_delivered)])) rfl rfl (hb hby d3_84)
    refine WP.st st325 ?_
    clear st325
    show WP p.tables e below _ T325 (mkF m 87 #[.val (.ref a1), .val (.int p1), .val (.long q1), .second, .val (.long q2), .second, .val (.int p3), .val (.long (own_bit p1)), .second, .val (.int (0 : Int32)), .val (.int (1 : Int32)), .unset] [(.long u_late), (.long u_delivered)])
    have bk326 : ∀ t, Steps p.tables e below (T325.setTop (mkF m 89 #[.val (.ref a1), .val (.int p1), .val (.long q1), .second, .val (.long q2), .second, .val (.int p3), .val (.long (own_bit p1)), .second, .val (.int (0 : Int32)), .val (.int (1 : Int32)), .unset] [(.int ((u_delivered + u_late).toInt32))])) t → Steps p.tables e below (T325.setTop (mkF m 87 #[.val (.ref a1), .val (.int p1), .val (.long q1), .second, .val (.long q2), .second, .val (.int p3), .val (.long (own_bit p1)), .second, .val (.int (0 : Int32)), .val (.int (1 : Int32)), .unset] [(.long u_late), (.long u_delivered)])) t := fun t k => by
      refine XS.ladd X325.here hx rfl (hb hby d3_87) rfl ?_
      refine XS.l2i X325.here hx rfl (hb hby d3_88) rfl ?_
      exact k
    refine WP.st bk326 ?_
    clear bk326
    rw [show ((u_delivered + u_late).toInt32) = (2 : Int32) from by rw [hde]; decide]
    show WP p.tables e below _ T325 (mkF m 89 #[.val (.ref a1), .val (.int p1), .val (.long q1), .second, .val (.long q2), .second, .val (.int p3), .val (.long (own_bit p1)), .second, .val (.int (0 : Int32)), .val (.int (1 : Int32)), .unset] [(.int (2 : Int32))])
    have bk327 : ∀ t, Steps p.tables e below (T325.setTop (mkF m 94 #[.val (.ref a1), .val (.int p1), .val (.long q1), .second, .val (.long q2), .second, .val (.int p3), .val (.long (own_bit p1)), .second, .val (.int (0 : Int32)), .val (.int (1 : Int32)), .val (.int (2 : Int32))] [(.ref a1), (.int (2 : Int32))])) t → Steps p.tables e below (T325.setTop (mkF m 89 #[.val (.ref a1), .val (.int p1), .val (.long q1), .second, .val (.long q2), .second, .val (.int p3), .val (.long (own_bit p1)), .second, .val (.int (0 : Int32)), .val (.int (1 : Int32)), .unset] [(.int (2 : Int32))])) t := fun t k => by
      refine XS.istore X325.here hx rfl (hb hby d3_89) rfl (l' := #[.val (.ref a1), .val (.int p1), .val (.long q1), .second, .val (.long q2), .second, .val (.int p3), .val (.long (own_bit p1)), .second, .val (.int (0 : Int32)), .val (.int (1 : Int32)), .val (.int (2 : Int32))]) rfl ?_
      refine XS.iload X325.here hx rfl (hb hby d3_91) rfl ?_
      refine XS.aloadN X325.here hx rfl (hb hby d3_93) rfl rfl ?_
      exact k
    refine WP.st bk327 ?_
    clear bk327
    obtain ⟨T328, X328, e328, st328⟩ := getF X325 hx hZ hown (host := "") (Or.inl (hw _ (List.mem_of_getElem? (i := 12) rfl))) Via.refl e325 F_a1_latenciesMicros (g := (mkF m 94 #[.val (.ref a1), .val (.int p1), .val (.long q1), .second, .val (.long q2), .second, .val (.int p3), .val (.long (own_bit p1)), .second, .val (.int (0 : Int32)), .val (.int (1 : Int32)), .val (.int (2 : Int32))] [(.ref a1), (.int (2 : Int32))])) rfl rfl (hb hby d3_94)
    refine WP.st st328 ?_
    clear st328
    show WP p.tables e below _ T328 (mkF m 97 #[.val (.ref a1), .val (.int p1), .val (.long q1), .second, .val (.long q2), .second, .val (.int p3), .val (.long (own_bit p1)), .second, .val (.int (0 : Int32)), .val (.int (1 : Int32)), .val (.int (2 : Int32))] [(.ref tl), (.int (2 : Int32))])
    obtain ⟨cl329, Ar329, len329⟩ := V_tl.len
    have bk330 : ∀ t, Steps p.tables e below (T328.setTop (mkF m 120 #[.val (.ref a1), .val (.int p1), .val (.long q1), .second, .val (.long q2), .second, .val (.int p3), .val (.long (own_bit p1)), .second, .val (.int (0 : Int32)), .val (.int (1 : Int32)), .val (.int (2 : Int32))] [(.ref a1)])) t → Steps p.tables e below (T328.setTop (mkF m 97 #[.val (.ref a1), .val (.int p1), .val (.long q1), .second, .val (.long q2), .second, .val (.int p3), .val (.long (own_bit p1)), .second, .val (.int (0 : Int32)), .val (.int (1 : Int32)), .val (.int (2 : Int32))] [(.ref tl), (.int (2 : Int32))])) t := fun t k => by
      refine X328.arraylength hx (by rw [e328]; exact Ar329.1) (State.isArrayOf_alike hZ.alike Ar329.2.1) (g := (mkF m 97 #[.val (.ref a1), .val (.int p1), .val (.long q1), .second, .val (.long q2), .second, .val (.int p3), .val (.long (own_bit p1)), .second, .val (.int (0 : Int32)), .val (.int (1 : Int32)), .val (.int (2 : Int32))] [(.ref tl), (.int (2 : Int32))])) rfl rfl (hb hby d3_97) _ ?_
      rw [len329]
      refine XS.icmpYes X328.here hx rfl (pc0 := 98) (pc' := 119) rfl (hb hby d3_98) rfl (feq (by decide : ¬ ((2 : Int32) = (16 : Int32)))).2 (by decide) (by decide) ?_
      refine XS.aloadN X328.here hx rfl (hb hby d3_119) rfl rfl ?_
      exact k
    refine WP.st bk330 ?_
    clear bk330
    obtain ⟨T331, X331, e331, st331⟩ := getF X328 hx hZ hown (host := "") (Or.inl (hw _ (List.mem_of_getElem? (i := 12) rfl))) Via.refl e328 F_a1_latenciesMicros (g := (mkF m 120 #[.val (.ref a1), .val (.int p1), .val (.long q1), .second, .val (.long q2), .second, .val (.int p3), .val (.long (own_bit p1)), .second, .val (.int (0 : Int32)), .val (.int (1 : Int32)), .val (.int (2 : Int32))] [(.ref a1)])) rfl rfl (hb hby d3_120)
    refine WP.st st331 ?_
    clear st331
    show WP p.tables e below _ T331 (mkF m 123 #[.val (.ref a1), .val (.int p1), .val (.long q1), .second, .val (.long q2), .second, .val (.int p3), .val (.long (own_bit p1)), .second, .val (.int (0 : Int32)), .val (.int (1 : Int32)), .val (.int (2 : Int32))] [(.ref tl)])
    have bk332 : ∀ t, Steps p.tables e below (T331.setTop (mkF m 134 #[.val (.ref a1), .val (.int p1), .val (.long q1), .second, .val (.long q2), .second, .val (.int p3), .val (.long (own_bit p1)), .second, .val (.int (0 : Int32)), .val (.int (1 : Int32)), .val (.int (2 : Int32))] [(.long (q1 / (1000 : Int64))), (.long (0 : Int64)), (.long (2147483647 : Int64)), (.int (2 : Int32)), (.ref tl)])) t → Steps p.tables e below (T331.setTop (mkF m 123 #[.val (.ref a1), .val (.int p1), .val (.long q1), .second, .val (.long q2), .second, .val (.int p3), .val (.long (own_bit p1)), .second, .val (.int (0 : Int32)), .val (.int (1 : Int32)), .val (.int (2 : Int32))] [(.ref tl)])) t := fun t k => by
      refine XS.iload X331.here hx rfl (hb hby d3_123) rfl ?_
      refine X331.ldc2Long hx hown (mvT hZ (hw _ (List.mem_of_getElem? (i := 28) rfl))) (g := (mkF m 125 #[.val (.ref a1), .val (.int p1), .val (.long q1), .second, .val (.long q2), .second, .val (.int p3), .val (.long (own_bit p1)), .second, .val (.int (0 : Int32)), .val (.int (1 : Int32)), .val (.int (2 : Int32))] [(.int (2 : Int32)), (.ref tl)])) rfl (hb hby d3_125) _ ?_
      refine XS.lconst X331.here hx rfl (hb hby d3_128) ?_
      refine XS.lloadN X331.here hx rfl (hb hby d3_129) rfl ?_
      show Steps p.tables e below (T331.setTop (mkF m 130 #[.val (.ref a1), .val (.int p1), .val (.long q1), .second, .val (.long q2), .second, .val (.int p3), .val (.long (own_bit p1)), .second, .val (.int (0 : Int32)), .val (.int (1 : Int32)), .val (.int (2 : Int32))] [(.long q1), (.long (0 : Int64)), (.long (2147483647 : Int64)), (.int (2 : Int32)), (.ref tl)])) t
      refine X331.ldc2Long hx hown (mvT hZ (hw _ (List.mem_of_getElem? (i := 29) rfl))) (g := (mkF m 130 #[.val (.ref a1), .val (.int p1), .val (.long q1), .second, .val (.long q2), .second, .val (.int p3), .val (.long (own_bit p1)), .second, .val (.int (0 : Int32)), .val (.int (1 : Int32)), .val (.int (2 : Int32))] [(.long q1), (.long (0 : Int64)), (.long (2147483647 : Int64)), (.int (2 : Int32)), (.ref tl)])) rfl (hb hby d3_130) _ ?_
      refine XS.ldiv X331.here hx rfl (hb hby d3_133) rfl (by decide) ?_
      exact k
    refine WP.st bk332 ?_
    clear bk332
    obtain ⟨_, _, ⟨T333, L333, k333, n333⟩, -, X333, ⟨Lc333, hQ333, l333, y333, z333⟩, st333⟩ := Jvm.LawKit.callS X331 hx (y := (⟨"java/lang/Math", "max", "(JJ)J"⟩ : MethodName)) hown (mvT hZ (hw _ (List.mem_of_getElem? (i := 30) rfl))) (mvT hZ (hw _ (List.mem_of_getElem? (i := 31) rfl))) (mvT hZ (hw _ (List.mem_of_getElem? (i := 32) rfl))) (mvT hZ (hw _ (List.mem_of_getElem? (i := 33) rfl))) (by decide) (backOf (W := 4) (rm4 l Z a0 hw [] (0 : Int64) (q1 / (1000 : Int64)) h321 n0 Z0 ) hZ (hw _ (List.mem_of_getElem? (i := 33) rfl)) (hw _ (List.mem_of_getElem? (i := 32) rfl)) (by decide) (by decide)) (g := (mkF m 134 #[.val (.ref a1), .val (.int p1), .val (.long q1), .second, .val (.long q2), .second, .val (.int p3), .val (.long (own_bit p1)), .second, .val (.int (0 : Int32)), .val (.int (1 : Int32)), .val (.int (2 : Int32))] [(.long (q1 / (1000 : Int64))), (.long (0 : Int64)), (.long (2147483647 : Int64)), (.int (2 : Int32)), (.ref tl)])) rfl (by rw [hml]; rfl) (argsL := [(.long (0 : Int64)), (.long (q1 / (1000 : Int64)))]) (rest := [(.long (2147483647 : Int64)), (.int (2 : Int32)), (.ref tl)]) (lenOf pd_2 rfl) rfl (by show 2 * 0 + _ ≤ _; exact Nat.le_of_eq rfl) (hb hby d3_134) (fun _ _ => ⟨rfl, e331, (by decide : 0 + 0 ≤ _), (by decide : 0 + 0 ≤ _)⟩)
    dsimp only [Pt.U, Pt.locs, Pt.cells, Pt.slots] at X333 l333 y333 z333 st333 hQ333
    subst l333 y333 z333
    obtain ⟨rfl, Nq333, Kq333⟩ := hQ333
    replace NF := Fr.app NF Nq333
    clear Nq333
    refine WP.st st333 ?_
    clear st333
    replace Kq333 := Kq333.trans (rfl : h321 = h321)
    show WP p.tables e below _ T333 (mkF m 137 #[.val (.ref a1), .val (.int p1), .val (.long q1), .second, .val (.long q2), .second, .val (.int p3), .val (.long (own_bit p1)), .second, .val (.int (0 : Int32)), .val (.int (1 : Int32)), .val (.int (2 : Int32))] [(.long (own_maxl (0 : Int64) (q1 / (1000 : Int64)))), (.long (2147483647 : Int64)), (.int (2 : Int32)), (.ref tl)])
    obtain ⟨_, _, ⟨T334, L334, k334, n334⟩, -, X334, ⟨Lc334, hQ334, l334, y334, z334⟩, st334⟩ := Jvm.LawKit.callS X333 hx (y := (⟨"java/lang/Math", "min", "(JJ)J"⟩ : MethodName)) hown (mvT hZ (hw _ (List.mem_of_getElem? (i := 34) rfl))) (mvT hZ (hw _ (List.mem_of_getElem? (i := 35) rfl))) (mvT hZ (hw _ (List.mem_of_getElem? (i := 32) rfl))) (mvT hZ (hw _ (List.mem_of_getElem? (i := 36) rfl))) (by decide) (backOf (W := 2) (rm5 l Z a0 hw [] (2147483647 : Int64) (own_maxl (0 : Int64) (q1 / (1000 : Int64))) h321 n0 Z0 ) hZ (hw _ (List.mem_of_getElem? (i := 36) rfl)) (hw _ (List.mem_of_getElem? (i := 32) rfl)) (by decide) (by decide)) (g := (mkF m 137 #[.val (.ref a1), .val (.int p1), .val (.long q1), .second, .val (.long q2), .second, .val (.int p3), .val (.long (own_bit p1)), .second, .val (.int (0 : Int32)), .val (.int (1 : Int32)), .val (.int (2 : Int32))] [(.long (own_maxl (0 : Int64) (q1 / (1000 : Int64)))), (.long (2147483647 : Int64)), (.int (2 : Int32)), (.ref tl)])) rfl (by rw [hml]; rfl) (argsL := [(.long (2147483647 : Int64)), (.long (own_maxl (0 : Int64) (q1 / (1000 : Int64))))]) (rest := [(.int (2 : Int32)), (.ref tl)]) (lenOf pd_2 rfl) rfl (by show 2 * 0 + _ ≤ _; exact Nat.le_of_eq rfl) (hb hby d3_137) (fun _ _ => ⟨rfl, Kq333, (by decide : 0 + 0 ≤ _), (by decide : 0 + 0 ≤ _)⟩)
    dsimp only [Pt.U, Pt.locs, Pt.cells, Pt.slots] at X334 l334 y334 z334 st334 hQ334
    subst l334 y334 z334
    obtain ⟨rfl, Nq334, Kq334⟩ := hQ334
    replace NF := Fr.app NF Nq334
    clear Nq334
    refine WP.st st334 ?_
    clear st334
    replace Kq334 := Kq334.trans (rfl : h321 = h321)
    show WP p.tables e below _ T334 (mkF m 140 #[.val (.ref a1), .val (.int p1), .val (.long q1), .second, .val (.long q2), .second, .val (.int p3), .val (.long (own_bit p1)), .second, .val (.int (0 : Int32)), .val (.int (1 : Int32)), .val (.int (2 : Int32))] [(.long (own_minl (2147483647 : Int64) (own_maxl (0 : Int64) (q1 / (1000 : Int64))))), (.int (2 : Int32)), (.ref tl)])
    have bk335 : ∀ t, Steps p.tables e below (T334.setTop (mkF m 141 #[.val (.ref a1), .val (.int p1), .val (.long q1), .second, .val (.long q2), .second, .val (.int p3), .val (.long (own_bit p1)), .second, .val (.int (0 : Int32)), .val (.int (1 : Int32)), .val (.int (2 : Int32))] [(.int ((own_minl (2147483647 : Int64) (own_maxl (0 : Int64) (q1 / (1000 : Int64)))).toInt32)), (.int (2 : Int32)), (.ref tl)])) t → Steps p.tables e below (T334.setTop (mkF m 140 #[.val (.ref a1), .val (.int p1), .val (.long q1), .second, .val (.long q2), .second, .val (.int p3), .val (.long (own_bit p1)), .second, .val (.int (0 : Int32)), .val (.int (1 : Int32)), .val (.int (2 : Int32))] [(.long (own_minl (2147483647 : Int64) (own_maxl (0 : Int64) (q1 / (1000 : Int64))))), (.int (2 : Int32)), (.ref tl)])) t := fun t k => by
      refine XS.l2i X334.here hx rfl (hb hby d3_140) rfl ?_
      exact k
    refine WP.st bk335 ?_
    clear bk335
    rw [show ((own_minl (2147483647 : Int64) (own_maxl (0 : Int64) (q1 / (1000 : Int64)))).toInt32) = (own_lat q1) from rfl]
    show WP p.tables e below _ T334 (mkF m 141 #[.val (.ref a1), .val (.int p1), .val (.long q1), .second, .val (.long q2), .second, .val (.int p3), .val (.long (own_bit p1)), .second, .val (.int (0 : Int32)), .val (.int (1 : Int32)), .val (.int (2 : Int32))] [(.int (own_lat q1)), (.int (2 : Int32)), (.ref tl)])
    obtain ⟨cl336, Ar336, q336, S336, N336, H336, G336⟩ := V_tl
    have hin336 : ¬ ((2 : Int32) < 0 ∨ cl336.slots.size ≤ ((2 : Int32)).toNatClampNeg) := inb_of S336 ⟨by decide, by decide⟩
    obtain ⟨T337, h337, X337, e337, W337, st337⟩ := stI X334 hx hZ Kq334 Ar336 (j := (2 : Int32)) hin336 (g := (mkF m 141 #[.val (.ref a1), .val (.int p1), .val (.long q1), .second, .val (.long q2), .second, .val (.int p3), .val (.long (own_bit p1)), .second, .val (.int (0 : Int32)), .val (.int (1 : Int32)), .val (.int (2 : Int32))] [(.int (own_lat q1)), (.int (2 : Int32)), (.ref tl)])) rfl rfl (hb hby d3_141)
    refine WP.st st337 ?_
    clear st337
    have Vn : Arv Z h337 tl kl .int (16 : Int32) [v0, v1, (.int (own_lat q1)), v3, v4, v5, v6, v7, v8, v9, v10, v11, v12, v13, v14, v15] (.int (0 : Int32)) := Arv.set Ar336 q336 S336 N336 H336 G336 rfl W337 2 rfl (Nat.le_of_ble_eq_true rfl)
    replace E_a1 := E_a1.wr W337
    replace F_a1_highestSequence := F_a1_highestSequence.other W337 (Or.inl ne_a1_tl)
    replace F_a1_messages := F_a1_messages.other W337 (Or.inl ne_a1_tl)
    replace F_a1_delivered := F_a1_delivered.other W337 (Or.inl ne_a1_tl)
    replace F_a1_late := F_a1_late.other W337 (Or.inl ne_a1_tl)
    replace F_a1_outOfOrder := F_a1_outOfOrder.other W337 (Or.inl ne_a1_tl)
    replace F_a1_duplicated := F_a1_duplicated.other W337 (Or.inl ne_a1_tl)
    replace F_a1_lastDeliveryNanos := F_a1_lastDeliveryNanos.other W337 (Or.inl ne_a1_tl)
    replace F_a1_seen := F_a1_seen.other W337 (Or.inl ne_a1_tl)
    replace F_a1_latenciesMicros := F_a1_latenciesMicros.other W337 (Or.inl ne_a1_tl)
    replace V_ts := V_ts.other W337 (Ne.symm ne_tl_ts)
    replace Z0 := Nat.le_trans Z0 (Keep.of_wr W337).1
    replace KP := KP.wr W337 (Or.inl (List.mem_of_getElem? (i := 2) rfl))
    replace V_tl := Vn
    replace NF := Fr.snoc X337 NF g_tl
    clear W337 hin336 q336 S336 N336 H336 G336 Ar336
    show WP p.tables e below _ T337 (mkF m 142 #[.val (.ref a1), .val (.int p1), .val (.long q1), .second, .val (.long q2), .second, .val (.int p3), .val (.long (own_bit p1)), .second, .val (.int (0 : Int32)), .val (.int (1 : Int32)), .val (.int (2 : Int32))] [])
    have bk339 : ∀ t, Steps p.tables e below (T337.setTop (mkF m 144 #[.val (.ref a1), .val (.int p1), .val (.long q1), .second, .val (.long q2), .second, .val (.int p3), .val (.long (own_bit p1)), .second, .val (.int (0 : Int32)), .val (.int (1 : Int32)), .val (.int (2 : Int32))] [(.int p3)])) t → Steps p.tables e below (T337.setTop (mkF m 142 #[.val (.ref a1), .val (.int p1), .val (.long q1), .second, .val (.long q2), .second, .val (.int p3), .val (.long (own_bit p1)), .second, .val (.int (0 : Int32)), .val (.int (1 : Int32)), .val (.int (2 : Int32))] [])) t := fun t k => by
      refine XS.iload X337.here hx rfl (hb hby d3_142) rfl ?_
      exact k
    refine WP.st bk339 ?_
    clear bk339
    by_cases hc338 : p3 = (0 : Int32)
    · skip
      have bk340 : ∀ t, Steps p.tables e below (T337.setTop (mkF m 163 #[.val (.ref a1), .val (.int p1), .val (.long q1), .second, .val (.long q2), .second, .val (.int p3), .val (.long (own_bit p1)), .second, .val (.int (0 : Int32)), .val (.int (1 : Int32)), .val (.int (2 : Int32))] [(.long q2), (.ref a1)])) t → Steps p.tables e below (T337.setTop (mkF m 144 #[.val (.ref a1), .val (.int p1), .val (.long q1), .second, .val (.long q2), .second, .val (.int p3), .val (.long (own_bit p1)), .second, .val (.int (0 : Int32)), .val (.int (1 : Int32)), .val (.int (2 : Int32))] [(.int p3)])) t := fun t k => by
        refine XS.ifYes X337.here hx rfl (pc0 := 144) (pc' := 160) rfl (hb hby d3_144) rfl ((if0 _ _).trans (teq hc338).1) (by decide) (by decide) ?_
        refine XS.aloadN X337.here hx rfl (hb hby d3_160) rfl rfl ?_
        refine XS.lload X337.here hx rfl (hb hby d3_161) rfl ?_
        exact k
      refine WP.st bk340 ?_
      clear bk340
      obtain ⟨T341, h341, X341, e341, W341, st341⟩ := putF X337 hx hZ hown (host := "") (Or.inl (hw _ (List.mem_of_getElem? (i := 65) rfl))) Via.refl e337 F_a1_lastDeliveryNanos E_a1 (Or.inl (hw _ (List.mem_of_getElem? (i := 66) rfl))) (hw _ (List.mem_of_getElem? (i := 1) rfl)) (ty := .long) (by decide) rfl rfl (g := (mkF m 163 #[.val (.ref a1), .val (.int p1), .val (.long q1), .second, .val (.long q2), .second, .val (.int p3), .val (.long (own_bit p1)), .second, .val (.int (0 : Int32)), .val (.int (1 : Int32)), .val (.int (2 : Int32))] [(.long q2), (.ref a1)])) rfl rfl (hb hby d3_163)
      refine WP.st st341 ?_
      clear st341
      replace E_a1 := E_a1.wr W341
      replace F_a1_highestSequence := F_a1_highestSequence.other W341 (Or.inr (sn_40 hw))
      replace F_a1_messages := F_a1_messages.other W341 (Or.inr (sn_41 hw))
      replace F_a1_delivered := F_a1_delivered.other W341 (Or.inr (sn_42 hw))
      replace F_a1_late := F_a1_late.other W341 (Or.inr (sn_43 hw))
      replace F_a1_outOfOrder := F_a1_outOfOrder.other W341 (Or.inr (sn_44 hw))
      replace F_a1_duplicated := F_a1_duplicated.other W341 (Or.inr (sn_45 hw))
      replace F_a1_lastDeliveryNanos := F_a1_lastDeliveryNanos.same W341
      replace F_a1_seen := F_a1_seen.other W341 (Or.inr (sn_46 hw))
      replace F_a1_latenciesMicros := F_a1_latenciesMicros.other W341 (Or.inr (sn_47 hw))
      replace V_ts := V_ts.other W341 (Ne.symm ne_a1_ts)
      replace V_tl := V_tl.other W341 (Ne.symm ne_a1_tl)
      replace Z0 := Nat.le_trans Z0 (Keep.of_wr W341).1
      replace KP := KP.wr W341 (Or.inl (List.mem_of_getElem? (i := 0) rfl))
      replace NF := Fr.snoc X341 NF g_a1
      clear W341
      show WP p.tables e below _ T341 (mkF m 166 #[.val (.ref a1), .val (.int p1), .val (.long q1), .second, .val (.long q2), .second, .val (.int p3), .val (.long (own_bit p1)), .second, .val (.int (0 : Int32)), .val (.int (1 : Int32)), .val (.int (2 : Int32))] [])
      have bk342 : ∀ t, Steps p.tables e below (T341.setTop (mkF m 168 #[.val (.ref a1), .val (.int p1), .val (.long q1), .second, .val (.long q2), .second, .val (.int p3), .val (.long (own_bit p1)), .second, .val (.int (0 : Int32)), .val (.int (1 : Int32)), .val (.int (2 : Int32))] [(.ref a1), (.ref a1)])) t → Steps p.tables e below (T341.setTop (mkF m 166 #[.val (.ref a1), .val (.int p1), .val (.long q1), .second, .val (.long q2), .second, .val (.int p3), .val (.long (own_bit p1)), .second, .val (.int (0 : Int32)), .val (.int (1 : Int32)), .val (.int (2 : Int32))] [])) t := fun t k => by
        refine XS.aloadN X341.here hx rfl (hb hby d3_166) rfl rfl ?_
        refine XS.aloadN X341.here hx rfl (hb hby d3_167) rfl rfl ?_
        exact k
      refine WP.st bk342 ?_
      clear bk342
      obtain ⟨T343, X343, e343, st343⟩ := getF X341 hx hZ hown (host := "") (Or.inl (hw _ (List.mem_of_getElem? (i := 24) rfl))) Via.refl e341 F_a1_delivered (g := (mkF m 168 #[.val (.ref a1), .val (.int p1), .val (.long q1), .second, .val (.long q2), .second, .val (.int p3), .val (.long (own_bit p1)), .second, .val (.int (0 : Int32)), .val (.int (1 : Int32)), .val (.int (2 : Int32))] [(.ref a1), (.ref a1)])) rfl rfl (hb hby d3_168)
      refine WP.st st343 ?_
      clear st343
      show WP p.tables e below _ T343 (mkF m 171 #[.val (.ref a1), .val (.int p1), .val (.long q1), .second, .val (.long q2), .second, .val (.int p3), .val (.long (own_bit p1)), .second, .val (.int (0 : Int32)), .val (.int (1 : Int32)), .val (.int (2 : Int32))] [(.long u_delivered), (.ref a1)])
      have bk344 : ∀ t, Steps p.tables e below (T343.setTop (mkF m 173 #[.val (.ref a1), .val (.int p1), .val (.long q1), .second, .val (.long q2), .second, .val (.int p3), .val (.long (own_bit p1)), .second, .val (.int (0 : Int32)), .val (.int (1 : Int32)), .val (.int (2 : Int32))] [(.long (u_delivered + (1 : Int64))), (.ref a1)])) t → Steps p.tables e below (T343.setTop (mkF m 171 #[.val (.ref a1), .val (.int p1), .val (.long q1), .second, .val (.long q2), .second, .val (.int p3), .val (.long (own_bit p1)), .second, .val (.int (0 : Int32)), .val (.int (1 : Int32)), .val (.int (2 : Int32))] [(.long u_delivered), (.ref a1)])) t := fun t k => by
        refine XS.lconst X343.here hx rfl (hb hby d3_171) ?_
        refine XS.ladd X343.here hx rfl (hb hby d3_172) rfl ?_
        exact k
      refine WP.st bk344 ?_
      clear bk344
      obtain ⟨T345, h345, X345, e345, W345, st345⟩ := putF X343 hx hZ hown (host := "") (Or.inl (hw _ (List.mem_of_getElem? (i := 24) rfl))) Via.refl e343 F_a1_delivered E_a1 (Or.inl (hw _ (List.mem_of_getElem? (i := 25) rfl))) (hw _ (List.mem_of_getElem? (i := 1) rfl)) (ty := .long) (by decide) rfl rfl (g := (mkF m 173 #[.val (.ref a1), .val (.int p1), .val (.long q1), .second, .val (.long q2), .second, .val (.int p3), .val (.long (own_bit p1)), .second, .val (.int (0 : Int32)), .val (.int (1 : Int32)), .val (.int (2 : Int32))] [(.long (u_delivered + (1 : Int64))), (.ref a1)])) rfl rfl (hb hby d3_173)
      refine WP.st st345 ?_
      clear st345
      replace E_a1 := E_a1.wr W345
      replace F_a1_highestSequence := F_a1_highestSequence.other W345 (Or.inr (sn_48 hw))
      replace F_a1_messages := F_a1_messages.other W345 (Or.inr (sn_49 hw))
      replace F_a1_delivered := F_a1_delivered.same W345
      replace F_a1_late := F_a1_late.other W345 (Or.inr (sn_50 hw))
      replace F_a1_outOfOrder := F_a1_outOfOrder.other W345 (Or.inr (sn_51 hw))
      replace F_a1_duplicated := F_a1_duplicated.other W345 (Or.inr (sn_52 hw))
      replace F_a1_lastDeliveryNanos := F_a1_lastDeliveryNanos.other W345 (Or.inr (sn_53 hw))
      replace F_a1_seen := F_a1_seen.other W345 (Or.inr (sn_54 hw))
      replace F_a1_latenciesMicros := F_a1_latenciesMicros.other W345 (Or.inr (sn_55 hw))
      replace V_ts := V_ts.other W345 (Ne.symm ne_a1_ts)
      replace V_tl := V_tl.other W345 (Ne.symm ne_a1_tl)
      replace Z0 := Nat.le_trans Z0 (Keep.of_wr W345).1
      replace KP := KP.wr W345 (Or.inl (List.mem_of_getElem? (i := 0) rfl))
      replace NF := Fr.snoc X345 NF g_a1
      clear W345
      show WP p.tables e below _ T345 (mkF m 176 #[.val (.ref a1), .val (.int p1), .val (.long q1), .second, .val (.long q2), .second, .val (.int p3), .val (.long (own_bit p1)), .second, .val (.int (0 : Int32)), .val (.int (1 : Int32)), .val (.int (2 : Int32))] [])
      have bk346 : ∀ t, Steps p.tables e below (T345.setTop (mkF m 191 #[.val (.ref a1), .val (.int p1), .val (.long q1), .second, .val (.long q2), .second, .val (.int p3), .val (.long (own_bit p1)), .second, .val (.int (0 : Int32)), .val (.int (1 : Int32)), .val (.int (2 : Int32))] [(.int (1 : Int32))])) t → Steps p.tables e below (T345.setTop (mkF m 176 #[.val (.ref a1), .val (.int p1), .val (.long q1), .second, .val (.long q2), .second, .val (.int p3), .val (.long (own_bit p1)), .second, .val (.int (0 : Int32)), .val (.int (1 : Int32)), .val (.int (2 : Int32))] [])) t := fun t k => by
        refine XS.goto X345.here hx rfl (pc0 := 176) (pc' := 189) rfl (hb hby d3_176) (by decide) (by decide) ?_
        refine XS.iload X345.here hx rfl (hb hby d3_189) rfl ?_
        exact k
      refine WP.st bk346 ?_
      clear bk346
      subst hG
      obtain ⟨fs, hr, hrun, hended, hW, hsame⟩ := X345.leave (v := some (.int (1 : Int32))) (fun h => by rw [Bd.returns] at h; cases h)
      refine WP.fin ⟨_, _, ?_, hrun, hended, _, _, rfl, ?_, ⟨_, rfl⟩, hW, hsame.mono (by decide) (by decide)⟩
      · exact retN X345 hx (t := .boolean) Bd.returns (by simp) (hb hby d3_191) hr
      · show Q3f2 Z a1 p1 q1 q2 p3 u_highestSequence u_messages u_delivered u_late u_outOfOrder u_duplicated u_lastDeliveryNanos ts ks tl kl wv v0 v1 v2 v3 v4 v5 v6 v7 v8 v9 v10 v11 v12 v13 v14 v15 h0 n0 _ T345.heap _
        rw [e345]
        exact ⟨(u_delivered + (1 : Int64)), u_late, p1, u_outOfOrder, q2, rfl, NF, KP, F_a1_highestSequence, F_a1_messages, F_a1_delivered, F_a1_late, F_a1_outOfOrder, F_a1_duplicated, F_a1_lastDeliveryNanos, F_a1_seen, F_a1_latenciesMicros, V_ts, V_tl, (by rw [own_d1, hde]; decide)⟩
    · skip
      have bk347 : ∀ t, Steps p.tables e below (T337.setTop (mkF m 149 #[.val (.ref a1), .val (.int p1), .val (.long q1), .second, .val (.long q2), .second, .val (.int p3), .val (.long (own_bit p1)), .second, .val (.int (0 : Int32)), .val (.int (1 : Int32)), .val (.int (2 : Int32))] [(.ref a1), (.ref a1)])) t → Steps p.tables e below (T337.setTop (mkF m 144 #[.val (.ref a1), .val (.int p1), .val (.long q1), .second, .val (.long q2), .second, .val (.int p3), .val (.long (own_bit p1)), .second, .val (.int (0 : Int32)), .val (.int (1 : Int32)), .val (.int (2 : Int32))] [(.int p3)])) t := fun t k => by
        refine XS.ifNo X337.here hx rfl (hb hby d3_144) rfl ((if0 _ _).trans (feq hc338).1) ?_
        refine XS.aloadN X337.here hx rfl (hb hby d3_147) rfl rfl ?_
        refine XS.aloadN X337.here hx rfl (hb hby d3_148) rfl rfl ?_
        exact k
      refine WP.st bk347 ?_
      clear bk347
      obtain ⟨T348, X348, e348, st348⟩ := getF X337 hx hZ hown (host := "") (Or.inl (hw _ (List.mem_of_getElem? (i := 26) rfl))) Via.refl e337 F_a1_late (g := (mkF m 149 #[.val (.ref a1), .val (.int p1), .val (.long q1), .second, .val (.long q2), .second, .val (.int p3), .val (.long (own_bit p1)), .second, .val (.int (0 : Int32)), .val (.int (1 : Int32)), .val (.int (2 : Int32))] [(.ref a1), (.ref a1)])) rfl rfl (hb hby d3_149)
      refine WP.st st348 ?_
      clear st348
      show WP p.tables e below _ T348 (mkF m 152 #[.val (.ref a1), .val (.int p1), .val (.long q1), .second, .val (.long q2), .second, .val (.int p3), .val (.long (own_bit p1)), .second, .val (.int (0 : Int32)), .val (.int (1 : Int32)), .val (.int (2 : Int32))] [(.long u_late), (.ref a1)])
      have bk349 : ∀ t, Steps p.tables e below (T348.setTop (mkF m 154 #[.val (.ref a1), .val (.int p1), .val (.long q1), .second, .val (.long q2), .second, .val (.int p3), .val (.long (own_bit p1)), .second, .val (.int (0 : Int32)), .val (.int (1 : Int32)), .val (.int (2 : Int32))] [(.long (u_late + (1 : Int64))), (.ref a1)])) t → Steps p.tables e below (T348.setTop (mkF m 152 #[.val (.ref a1), .val (.int p1), .val (.long q1), .second, .val (.long q2), .second, .val (.int p3), .val (.long (own_bit p1)), .second, .val (.int (0 : Int32)), .val (.int (1 : Int32)), .val (.int (2 : Int32))] [(.long u_late), (.ref a1)])) t := fun t k => by
        refine XS.lconst X348.here hx rfl (hb hby d3_152) ?_
        refine XS.ladd X348.here hx rfl (hb hby d3_153) rfl ?_
        exact k
      refine WP.st bk349 ?_
      clear bk349
      obtain ⟨T350, h350, X350, e350, W350, st350⟩ := putF X348 hx hZ hown (host := "") (Or.inl (hw _ (List.mem_of_getElem? (i := 26) rfl))) Via.refl e348 F_a1_late E_a1 (Or.inl (hw _ (List.mem_of_getElem? (i := 27) rfl))) (hw _ (List.mem_of_getElem? (i := 1) rfl)) (ty := .long) (by decide) rfl rfl (g := (mkF m 154 #[.val (.ref a1), .val (.int p1), .val (.long q1), .second, .val (.long q2), .second, .val (.int p3), .val (.long (own_bit p1)), .second, .val (.int (0 : Int32)), .val (.int (1 : Int32)), .val (.int (2 : Int32))] [(.long (u_late + (1 : Int64))), (.ref a1)])) rfl rfl (hb hby d3_154)
      refine WP.st st350 ?_
      clear st350
      replace E_a1 := E_a1.wr W350
      replace F_a1_highestSequence := F_a1_highestSequence.other W350 (Or.inr (sn_56 hw))
      replace F_a1_messages := F_a1_messages.other W350 (Or.inr (sn_57 hw))
      replace F_a1_delivered := F_a1_delivered.other W350 (Or.inr (sn_58 hw))
      replace F_a1_late := F_a1_late.same W350
      replace F_a1_outOfOrder := F_a1_outOfOrder.other W350 (Or.inr (sn_59 hw))
      replace F_a1_duplicated := F_a1_duplicated.other W350 (Or.inr (sn_60 hw))
      replace F_a1_lastDeliveryNanos := F_a1_lastDeliveryNanos.other W350 (Or.inr (sn_61 hw))
      replace F_a1_seen := F_a1_seen.other W350 (Or.inr (sn_62 hw))
      replace F_a1_latenciesMicros := F_a1_latenciesMicros.other W350 (Or.inr (sn_63 hw))
      replace V_ts := V_ts.other W350 (Ne.symm ne_a1_ts)
      replace V_tl := V_tl.other W350 (Ne.symm ne_a1_tl)
      replace Z0 := Nat.le_trans Z0 (Keep.of_wr W350).1
      replace KP := KP.wr W350 (Or.inl (List.mem_of_getElem? (i := 0) rfl))
      replace NF := Fr.snoc X350 NF g_a1
      clear W350
      show WP p.tables e below _ T350 (mkF m 157 #[.val (.ref a1), .val (.int p1), .val (.long q1), .second, .val (.long q2), .second, .val (.int p3), .val (.long (own_bit p1)), .second, .val (.int (0 : Int32)), .val (.int (1 : Int32)), .val (.int (2 : Int32))] [])
      have bk351 : ∀ t, Steps p.tables e below (T350.setTop (mkF m 191 #[.val (.ref a1), .val (.int p1), .val (.long q1), .second, .val (.long q2), .second, .val (.int p3), .val (.long (own_bit p1)), .second, .val (.int (0 : Int32)), .val (.int (1 : Int32)), .val (.int (2 : Int32))] [(.int (1 : Int32))])) t → Steps p.tables e below (T350.setTop (mkF m 157 #[.val (.ref a1), .val (.int p1), .val (.long q1), .second, .val (.long q2), .second, .val (.int p3), .val (.long (own_bit p1)), .second, .val (.int (0 : Int32)), .val (.int (1 : Int32)), .val (.int (2 : Int32))] [])) t := fun t k => by
        refine XS.goto X350.here hx rfl (pc0 := 157) (pc' := 176) rfl (hb hby d3_157) (by decide) (by decide) ?_
        refine XS.goto X350.here hx rfl (pc0 := 176) (pc' := 189) rfl (hb hby d3_176) (by decide) (by decide) ?_
        refine XS.iload X350.here hx rfl (hb hby d3_189) rfl ?_
        exact k
      refine WP.st bk351 ?_
      clear bk351
      subst hG
      obtain ⟨fs, hr, hrun, hended, hW, hsame⟩ := X350.leave (v := some (.int (1 : Int32))) (fun h => by rw [Bd.returns] at h; cases h)
      refine WP.fin ⟨_, _, ?_, hrun, hended, _, _, rfl, ?_, ⟨_, rfl⟩, hW, hsame.mono (by decide) (by decide)⟩
      · exact retN X350 hx (t := .boolean) Bd.returns (by simp) (hb hby d3_191) hr
      · show Q3f2 Z a1 p1 q1 q2 p3 u_highestSequence u_messages u_delivered u_late u_outOfOrder u_duplicated u_lastDeliveryNanos ts ks tl kl wv v0 v1 v2 v3 v4 v5 v6 v7 v8 v9 v10 v11 v12 v13 v14 v15 h0 n0 _ T350.heap _
        rw [e350]
        exact ⟨u_delivered, (u_late + (1 : Int64)), p1, u_outOfOrder, u_lastDeliveryNanos, rfl, NF, KP, F_a1_highestSequence, F_a1_messages, F_a1_delivered, F_a1_late, F_a1_outOfOrder, F_a1_duplicated, F_a1_lastDeliveryNanos, F_a1_seen, F_a1_latenciesMicros, V_ts, V_tl, (by rw [own_d2, hde]; decide)⟩
theorem ef_3d (m : MethodId) (a1 : Addr) (p1 : Int32) (q1 : Int64) (q2 : Int64) (p3 : Int32) : entryFrame m #[(.ref a1), (.int p1), (.long q1), (.long q2), (.int p3)] 12 = mkF m 0 #[.val (.ref a1), .val (.int p1), .val (.long q1), .second, .val (.long q2), .second, .val (.int p3), .unset, .unset, .unset, .unset, .unset] [] := by first | (simp [entryFrame, mkF, argsToLocals, Value.category]; done) | rfl
theorem d3_33 : decode prog_3_method_2_code 33 = .ok (.iconst 0, 1) := by decide +kernel
theorem d3_179 : decode prog_3_method_2_code 179 = .ok (.aload_n 0, 1) := by decide +kernel
theorem d3_180 : decode prog_3_method_2_code 180 = .ok (.aload_n 0, 1) := by decide +kernel
theorem d3_181 : decode prog_3_method_2_code 181 = .ok (.getfield 60, 3) := by decide +kernel
theorem d3_184 : decode prog_3_method_2_code 184 = .ok (.lconst 1, 1) := by decide +kernel
theorem d3_185 : decode prog_3_method_2_code 185 = .ok (.ladd, 1) := by decide +kernel
theorem d3_186 : decode prog_3_method_2_code 186 = .ok (.putfield 60, 3) := by decide +kernel
theorem sn_64 {a0 : Array Value} {Z : State} (hw : ∀ d ∈ tables_1, d.before a0 Z = true) : Jvm.RoadKit.slotOf Z "com/example/otayori/otayori/bench/PairTally" "highestSequence" "I" ≠ Jvm.RoadKit.slotOf Z "com/example/otayori/otayori/bench/PairTally" "duplicated" "J" := slot_ne (Or.inl (hw _ (List.mem_of_getElem? (i := 10) rfl))) (Or.inl (hw _ (List.mem_of_getElem? (i := 47) rfl))) (by decide) (t := .int) (t' := .long) (by decide) (by decide)
theorem sn_65 {a0 : Array Value} {Z : State} (hw : ∀ d ∈ tables_1, d.before a0 Z = true) : Jvm.RoadKit.slotOf Z "com/example/otayori/otayori/bench/PairTally" "messages" "I" ≠ Jvm.RoadKit.slotOf Z "com/example/otayori/otayori/bench/PairTally" "duplicated" "J" := slot_ne (Or.inr (hw _ (List.mem_of_getElem? (i := 15) rfl))) (Or.inl (hw _ (List.mem_of_getElem? (i := 47) rfl))) (by decide) (t := .int) (t' := .long) (by decide) (by decide)
theorem sn_66 {a0 : Array Value} {Z : State} (hw : ∀ d ∈ tables_1, d.before a0 Z = true) : Jvm.RoadKit.slotOf Z "com/example/otayori/otayori/bench/PairTally" "delivered" "J" ≠ Jvm.RoadKit.slotOf Z "com/example/otayori/otayori/bench/PairTally" "duplicated" "J" := slot_ne (Or.inl (hw _ (List.mem_of_getElem? (i := 25) rfl))) (Or.inl (hw _ (List.mem_of_getElem? (i := 47) rfl))) (by decide) (t := .long) (t' := .long) (by decide) (by decide)
theorem sn_67 {a0 : Array Value} {Z : State} (hw : ∀ d ∈ tables_1, d.before a0 Z = true) : Jvm.RoadKit.slotOf Z "com/example/otayori/otayori/bench/PairTally" "late" "J" ≠ Jvm.RoadKit.slotOf Z "com/example/otayori/otayori/bench/PairTally" "duplicated" "J" := slot_ne (Or.inl (hw _ (List.mem_of_getElem? (i := 27) rfl))) (Or.inl (hw _ (List.mem_of_getElem? (i := 47) rfl))) (by decide) (t := .long) (t' := .long) (by decide) (by decide)
theorem sn_68 {a0 : Array Value} {Z : State} (hw : ∀ d ∈ tables_1, d.before a0 Z = true) : Jvm.RoadKit.slotOf Z "com/example/otayori/otayori/bench/PairTally" "outOfOrder" "J" ≠ Jvm.RoadKit.slotOf Z "com/example/otayori/otayori/bench/PairTally" "duplicated" "J" := slot_ne (Or.inl (hw _ (List.mem_of_getElem? (i := 44) rfl))) (Or.inl (hw _ (List.mem_of_getElem? (i := 47) rfl))) (by decide) (t := .long) (t' := .long) (by decide) (by decide)
theorem sn_69 {a0 : Array Value} {Z : State} (hw : ∀ d ∈ tables_1, d.before a0 Z = true) : Jvm.RoadKit.slotOf Z "com/example/otayori/otayori/bench/PairTally" "lastDeliveryNanos" "J" ≠ Jvm.RoadKit.slotOf Z "com/example/otayori/otayori/bench/PairTally" "duplicated" "J" := slot_ne (Or.inl (hw _ (List.mem_of_getElem? (i := 66) rfl))) (Or.inl (hw _ (List.mem_of_getElem? (i := 47) rfl))) (by decide) (t := .long) (t' := .long) (by decide) (by decide)
theorem sn_70 {a0 : Array Value} {Z : State} (hw : ∀ d ∈ tables_1, d.before a0 Z = true) : Jvm.RoadKit.slotOf Z "com/example/otayori/otayori/bench/PairTally" "seen" "[J" ≠ Jvm.RoadKit.slotOf Z "com/example/otayori/otayori/bench/PairTally" "duplicated" "J" := slot_ne (Or.inr (hw _ (List.mem_of_getElem? (i := 18) rfl))) (Or.inl (hw _ (List.mem_of_getElem? (i := 47) rfl))) (by decide) (t := (.array .long)) (t' := .long) (by decide) (by decide)
theorem sn_71 {a0 : Array Value} {Z : State} (hw : ∀ d ∈ tables_1, d.before a0 Z = true) : Jvm.RoadKit.slotOf Z "com/example/otayori/otayori/bench/PairTally" "latenciesMicros" "[I" ≠ Jvm.RoadKit.slotOf Z "com/example/otayori/otayori/bench/PairTally" "duplicated" "J" := slot_ne (Or.inl (hw _ (List.mem_of_getElem? (i := 13) rfl))) (Or.inl (hw _ (List.mem_of_getElem? (i := 47) rfl))) (by decide) (t := (.array .int)) (t' := .long) (by decide) (by decide)
def Q3d (Z : State) (a1 : Addr) (p1 : Int32) (q1 : Int64) (q2 : Int64) (p3 : Int32) (u_highestSequence : Int32) (u_messages : Int32) (u_delivered : Int64) (u_late : Int64) (u_outOfOrder : Int64) (u_duplicated : Int64) (u_lastDeliveryNanos : Int64) (ts : Addr) (ks : ClassId) (tl : Addr) (kl : ClassId) (wv : Int64) (v0 : Value) (v1 : Value) (v2 : Value) (v3 : Value) (v4 : Value) (v5 : Value) (v6 : Value) (v7 : Value) (v8 : Value) (v9 : Value) (v10 : Value) (v11 : Value) (v12 : Value) (v13 : Value) (v14 : Value) (v15 : Value) (h0 : Heap) (n0 : Nat) (v : Option Value) (h : Heap) (L : List Loc) : Prop := ∃ c1 : Int64, v = some (.int (0 : Int32)) ∧ Fr n0 L ∧ Keep h0 h [a1, ts, tl] ∧ Fld Z h a1 "com/example/otayori/otayori/bench/PairTally" "highestSequence" "I" (.int u_highestSequence) ∧ Fld Z h a1 "com/example/otayori/otayori/bench/PairTally" "messages" "I" (.int u_messages) ∧ Fld Z h a1 "com/example/otayori/otayori/bench/PairTally" "delivered" "J" (.long u_delivered) ∧ Fld Z h a1 "com/example/otayori/otayori/bench/PairTally" "late" "J" (.long u_late) ∧ Fld Z h a1 "com/example/otayori/otayori/bench/PairTally" "outOfOrder" "J" (.long u_outOfOrder) ∧ Fld Z h a1 "com/example/otayori/otayori/bench/PairTally" "duplicated" "J" (.long c1) ∧ Fld Z h a1 "com/example/otayori/otayori/bench/PairTally" "lastDeliveryNanos" "J" (.long u_lastDeliveryNanos) ∧ Fld Z h a1 "com/example/otayori/otayori/bench/PairTally" "seen" "[J" (.ref ts) ∧ Fld Z h a1 "com/example/otayori/otayori/bench/PairTally" "latenciesMicros" "[I" (.ref tl) ∧ (Arv Z h ts ks .long (1 : Int32) [(.long wv)] (.long (0 : Int64))) ∧ (Arv Z h tl kl .int (16 : Int32) [v0, v1, v2, v3, v4, v5, v6, v7, v8, v9, v10, v11, v12, v13, v14, v15] (.int (0 : Int32)))
set_option maxRecDepth 65536 in
set_option maxHeartbeats 40000000 in
theorem rm3d (l : Launch) (Z : State) (a0 : Array Value) (hw : ∀ d ∈ tables_1, d.before a0 Z = true) (ws : List Jvm.Cond) (a1 : Addr) (p1 : Int32) (q1 : Int64) (q2 : Int64) (p3 : Int32) (u_highestSequence : Int32) (u_messages : Int32) (u_delivered : Int64) (u_late : Int64) (u_outOfOrder : Int64) (u_duplicated : Int64) (u_lastDeliveryNanos : Int64) (ts : Addr) (ks : ClassId) (tl : Addr) (kl : ClassId) (wv : Int64) (v0 : Value) (v1 : Value) (v2 : Value) (v3 : Value) (v4 : Value) (v5 : Value) (v6 : Value) (v7 : Value) (v8 : Value) (v9 : Value) (v10 : Value) (v11 : Value) (v12 : Value) (v13 : Value) (v14 : Value) (v15 : Value) (h0 : Heap) (n0 : Nat) (Z0 : n0 ≤ h0.size) (E_a1 : Exa Z h0 a1 "com/example/otayori/otayori/bench/PairTally") (g_a1 : n0 ≤ a1) (F_a1_highestSequence : Fld Z h0 a1 "com/example/otayori/otayori/bench/PairTally" "highestSequence" "I" (.int u_highestSequence)) (F_a1_messages : Fld Z h0 a1 "com/example/otayori/otayori/bench/PairTally" "messages" "I" (.int u_messages)) (F_a1_delivered : Fld Z h0 a1 "com/example/otayori/otayori/bench/PairTally" "delivered" "J" (.long u_delivered)) (F_a1_late : Fld Z h0 a1 "com/example/otayori/otayori/bench/PairTally" "late" "J" (.long u_late)) (F_a1_outOfOrder : Fld Z h0 a1 "com/example/otayori/otayori/bench/PairTally" "outOfOrder" "J" (.long u_outOfOrder)) (F_a1_duplicated : Fld Z h0 a1 "com/example/otayori/otayori/bench/PairTally" "duplicated" "J" (.long u_duplicated)) (F_a1_lastDeliveryNanos : Fld Z h0 a1 "com/example/otayori/otayori/bench/PairTally" "lastDeliveryNanos" "J" (.long u_lastDeliveryNanos)) (F_a1_seen : Fld Z h0 a1 "com/example/otayori/otayori/bench/PairTally" "seen" "[J" (.ref ts)) (F_a1_latenciesMicros : Fld Z h0 a1 "com/example/otayori/otayori/bench/PairTally" "latenciesMicros" "[I" (.ref tl)) (V_ts : Arv Z h0 ts ks .long (1 : Int32) [(.long wv)] (.long (0 : Int64))) (V_tl : Arv Z h0 tl kl .int (16 : Int32) [v0, v1, v2, v3, v4, v5, v6, v7, v8, v9, v10, v11, v12, v13, v14, v15] (.int (0 : Int32))) (g_ts : n0 ≤ ts) (g_tl : n0 ≤ tl) (ne_a1_ts : a1 ≠ ts) (ne_a1_tl : a1 ≠ tl) (ne_tl_ts : tl ≠ ts) (h8 : own_small p1) (hfirst : ¬ ((lcmpW (wv &&& (own_bit p1)) (0 : Int64)) = (0 : Int32))) :
    MetFree l (⟨"com/example/otayori/otayori/bench/PairTally", "record", "(IJJZ)Z"⟩ : MethodName) (head1 (Jvm.Cond.code (⟨"com/example/otayori/otayori/bench/PairTally", "record", "(IJJZ)Z"⟩ : MethodName) prog_3_method_2_code 12 (some .boolean) :: ws) ({ frames := 0, cells := 0, slots := 0, locals := 0 } : Room)) (fun a U => a = #[(.ref a1), (.int p1), (.long q1), (.long q2), (.int p3)] ∧ Z.Warmed39 U.vm ∧ U.heap = h0) (fun _ _ _ _ _ => True) (fun _ U o U' => ∃ v L, o = .returned v ∧ Q3d Z a1 p1 q1 q2 p3 u_highestSequence u_messages u_delivered u_late u_outOfOrder u_duplicated u_lastDeliveryNanos ts ks tl kl wv v0 v1 v2 v3 v4 v5 v6 v7 v8 v9 v10 v11 v12 v13 v14 v15 h0 n0 v U'.heap L ∧ FrameEnd U o U' L ({ frames := 0, cells := 0, slots := 0, locals := 0 } : Room).cells ({ frames := 0, cells := 0, slots := 0, locals := 0 } : Room).slots) := by
  refine MetFree.of_bodySF (plainFor_of_name pn_0) hisR ?_
  intro p e s m args below meth c s₁ Bd hml0 hP hK
  obtain ⟨rfl, hZ, hh⟩ := hP
  have hx := Bd.exec
  have hby := Bd.bytes
  have hml : c.maxLocals = 12 := hml0
  have hown : s.vm.findClass "com/example/otayori/otayori/bench/PairTally" = some m.cls := findClass_of_methodNamed Bd.named
  have hnm := (name_of_methodNamed Bd.named Bd.method).1
  have X0 : Stand p l e ({ frames := 0, cells := 0, slots := 0, locals := 0 } : Room) s m #[(.ref a1), (.int p1), (.long q1), (.long q2), (.int p3)] below meth c s₁ [] 0 0 := Stand.of_body Bd
  have e0 : s₁.heap = h0 := by rw [← hh, Bd.state]; rfl
  have NF := Fr.nil n0
  have KP : Keep h0 h0 [a1, ts, tl] := Keep.refl h0 _
  refine WP.go ?_
  refine WP.cast (ef_3d m a1 p1 q1 q2 p3) ?_
  refine WP.name ?_
  intro G hG
  have bk352 : ∀ t, Steps p.tables e below (s₁.setTop (mkF m 6 #[.val (.ref a1), .val (.int p1), .val (.long q1), .second, .val (.long q2), .second, .val (.int p3), .unset, .unset, .unset, .unset, .unset] [(.long ((1 : Int64) <<< ((p1 % (64 : Int32)) &&& 0x3f).toInt64))])) t → Steps p.tables e below (s₁.setTop (mkF m 0 #[.val (.ref a1), .val (.int p1), .val (.long q1), .second, .val (.long q2), .second, .val (.int p3), .unset, .unset, .unset, .unset, .unset] [])) t := fun t k => by
    refine XS.lconst X0.here hx rfl (hb hby d3_0) ?_
    refine XS.iloadN X0.here hx rfl (hb hby d3_1) rfl ?_
    refine XS.bipush X0.here hx rfl (hb hby d3_2) ?_
    refine iremM X0 hx rfl (hb hby d3_4) rfl (by decide) ?_
    show Steps p.tables e below (s₁.setTop (mkF m 5 #[.val (.ref a1), .val (.int p1), .val (.long q1), .second, .val (.long q2), .second, .val (.int p3), .unset, .unset, .unset, .unset, .unset] [(.int (p1 % (64 : Int32))), (.long (1 : Int64))])) t
    refine XS.lshl X0.here hx rfl (hb hby d3_5) rfl ?_
    exact k
  refine WP.st bk352 ?_
  clear bk352
  rw [show ((1 : Int64) <<< ((p1 % (64 : Int32)) &&& 0x3f).toInt64) = (own_bit p1) from rfl]
  show WP p.tables e below _ s₁ (mkF m 6 #[.val (.ref a1), .val (.int p1), .val (.long q1), .second, .val (.long q2), .second, .val (.int p3), .unset, .unset, .unset, .unset, .unset] [(.long (own_bit p1))])
  have bk353 : ∀ t, Steps p.tables e below (s₁.setTop (mkF m 12 #[.val (.ref a1), .val (.int p1), .val (.long q1), .second, .val (.long q2), .second, .val (.int p3), .val (.long (own_bit p1)), .second, .unset, .unset, .unset] [(.int (p1 / (64 : Int32)))])) t → Steps p.tables e below (s₁.setTop (mkF m 6 #[.val (.ref a1), .val (.int p1), .val (.long q1), .second, .val (.long q2), .second, .val (.int p3), .unset, .unset, .unset, .unset, .unset] [(.long (own_bit p1))])) t := fun t k => by
    refine XS.lstore X0.here hx rfl (hb hby d3_6) rfl (l' := #[.val (.ref a1), .val (.int p1), .val (.long q1), .second, .val (.long q2), .second, .val (.int p3), .val (.long (own_bit p1)), .second, .unset, .unset, .unset]) rfl ?_
    refine XS.iloadN X0.here hx rfl (hb hby d3_8) rfl ?_
    refine XS.bipush X0.here hx rfl (hb hby d3_9) ?_
    refine XS.idiv X0.here hx rfl (hb hby d3_11) rfl (by decide) ?_
    exact k
  refine WP.st bk353 ?_
  clear bk353
  rw [show (p1 / (64 : Int32)) = (0 : Int32) from own_div h8]
  show WP p.tables e below _ s₁ (mkF m 12 #[.val (.ref a1), .val (.int p1), .val (.long q1), .second, .val (.long q2), .second, .val (.int p3), .val (.long (own_bit p1)), .second, .unset, .unset, .unset] [(.int (0 : Int32))])
  have bk354 : ∀ t, Steps p.tables e below (s₁.setTop (mkF m 15 #[.val (.ref a1), .val (.int p1), .val (.long q1), .second, .val (.long q2), .second, .val (.int p3), .val (.long (own_bit p1)), .second, .val (.int (0 : Int32)), .unset, .unset] [(.ref a1)])) t → Steps p.tables e below (s₁.setTop (mkF m 12 #[.val (.ref a1), .val (.int p1), .val (.long q1), .second, .val (.long q2), .second, .val (.int p3), .val (.long (own_bit p1)), .second, .unset, .unset, .unset] [(.int (0 : Int32))])) t := fun t k => by
    refine XS.istore X0.here hx rfl (hb hby d3_12) rfl (l' := #[.val (.ref a1), .val (.int p1), .val (.long q1), .second, .val (.long q2), .second, .val (.int p3), .val (.long (own_bit p1)), .second, .val (.int (0 : Int32)), .unset, .unset]) rfl ?_
    refine XS.aloadN X0.here hx rfl (hb hby d3_14) rfl rfl ?_
    exact k
  refine WP.st bk354 ?_
  clear bk354
  obtain ⟨T355, X355, e355, st355⟩ := getF X0 hx hZ hown (host := "") (Or.inl (hw _ (List.mem_of_getElem? (i := 17) rfl))) Via.refl e0 F_a1_seen (g := (mkF m 15 #[.val (.ref a1), .val (.int p1), .val (.long q1), .second, .val (.long q2), .second, .val (.int p3), .val (.long (own_bit p1)), .second, .val (.int (0 : Int32)), .unset, .unset] [(.ref a1)])) rfl rfl (hb hby d3_15)
  refine WP.st st355 ?_
  clear st355
  show WP p.tables e below _ T355 (mkF m 18 #[.val (.ref a1), .val (.int p1), .val (.long q1), .second, .val (.long q2), .second, .val (.int p3), .val (.long (own_bit p1)), .second, .val (.int (0 : Int32)), .unset, .unset] [(.ref ts)])
  have bk356 : ∀ t, Steps p.tables e below (T355.setTop (mkF m 20 #[.val (.ref a1), .val (.int p1), .val (.long q1), .second, .val (.long q2), .second, .val (.int p3), .val (.long (own_bit p1)), .second, .val (.int (0 : Int32)), .unset, .unset] [(.int (0 : Int32)), (.ref ts)])) t → Steps p.tables e below (T355.setTop (mkF m 18 #[.val (.ref a1), .val (.int p1), .val (.long q1), .second, .val (.long q2), .second, .val (.int p3), .val (.long (own_bit p1)), .second, .val (.int (0 : Int32)), .unset, .unset] [(.ref ts)])) t := fun t k => by
    refine XS.iload X355.here hx rfl (hb hby d3_18) rfl ?_
    exact k
  refine WP.st bk356 ?_
  clear bk356
  obtain ⟨cl357, Ar357, hin357, hat357, -⟩ := V_ts.rd (j := (0 : Int32)) ⟨by decide, by decide⟩
  replace hat357 : cl357.slots[((0 : Int32)).toNatClampNeg]? = some (.long wv) := hat357
  have bk358 : ∀ t, Steps p.tables e below (T355.setTop (mkF m 181 #[.val (.ref a1), .val (.int p1), .val (.long q1), .second, .val (.long q2), .second, .val (.int p3), .val (.long (own_bit p1)), .second, .val (.int (0 : Int32)), .val (.int (0 : Int32)), .unset] [(.ref a1), (.ref a1)])) t → Steps p.tables e below (T355.setTop (mkF m 20 #[.val (.ref a1), .val (.int p1), .val (.long q1), .second, .val (.long q2), .second, .val (.int p3), .val (.long (own_bit p1)), .second, .val (.int (0 : Int32)), .unset, .unset] [(.int (0 : Int32)), (.ref ts)])) t := fun t k => by
    refine X355.laload hx (j := (0 : Int32)) (v := (.long wv)) (by rw [e355]; exact Ar357.1) (State.isArrayOf_alike hZ.alike Ar357.2.1) Ar357.2.2 hin357 hat357 (g := (mkF m 20 #[.val (.ref a1), .val (.int p1), .val (.long q1), .second, .val (.long q2), .second, .val (.int p3), .val (.long (own_bit p1)), .second, .val (.int (0 : Int32)), .unset, .unset] [(.int (0 : Int32)), (.ref ts)])) rfl rfl (hb hby d3_20) _ ?_
    refine XS.lload X355.here hx rfl (hb hby d3_21) rfl ?_
    refine XS.land X355.here hx rfl (hb hby d3_23) rfl ?_
    refine XS.lconst X355.here hx rfl (hb hby d3_24) ?_
    show Steps p.tables e below (T355.setTop (mkF m 25 #[.val (.ref a1), .val (.int p1), .val (.long q1), .second, .val (.long q2), .second, .val (.int p3), .val (.long (own_bit p1)), .second, .val (.int (0 : Int32)), .unset, .unset] [(.long (0 : Int64)), (.long (wv &&& (own_bit p1)))])) t
    refine XS.lcmp X355.here hx rfl (hb hby d3_25) rfl ?_
    refine XS.ifYes X355.here hx rfl (pc0 := 26) (pc' := 33) rfl (hb hby d3_26) rfl ((if0 _ _).trans (feq hfirst).2) (by decide) (by decide) ?_
    refine XS.iconst X355.here hx rfl (hb hby d3_33) ?_
    refine XS.istore X355.here hx rfl (hb hby d3_34) rfl (l' := #[.val (.ref a1), .val (.int p1), .val (.long q1), .second, .val (.long q2), .second, .val (.int p3), .val (.long (own_bit p1)), .second, .val (.int (0 : Int32)), .val (.int (0 : Int32)), .unset]) rfl ?_
    show Steps p.tables e below (T355.setTop (mkF m 36 #[.val (.ref a1), .val (.int p1), .val (.long q1), .second, .val (.long q2), .second, .val (.int p3), .val (.long (own_bit p1)), .second, .val (.int (0 : Int32)), .val (.int (0 : Int32)), .unset] [])) t
    refine XS.iload X355.here hx rfl (hb hby d3_36) rfl ?_
    refine XS.ifYes X355.here hx rfl (pc0 := 38) (pc' := 179) rfl (hb hby d3_38) rfl ((if0 _ _).trans (teq (by decide : (0 : Int32) = (0 : Int32))).1) (by decide) (by decide) ?_
    refine XS.aloadN X355.here hx rfl (hb hby d3_179) rfl rfl ?_
    refine XS.aloadN X355.here hx rfl (hb hby d3_180) rfl rfl ?_
    exact k
  refine WP.st bk358 ?_
  clear bk358
  obtain ⟨T359, X359, e359, st359⟩ := getF X355 hx hZ hown (host := "") (Or.inl (hw _ (List.mem_of_getElem? (i := 46) rfl))) Via.refl e355 F_a1_duplicated (g := (mkF m 181 #[.val (.ref a1), .val (.int p1), .val (.long q1), .second, .val (.long q2), .second, .val (.int p3), .val (.long (own_bit p1)), .second, .val (.int (0 : Int32)), .val (.int (0 : Int32)), .unset] [(.ref a1), (.ref a1)])) rfl rfl (hb hby d3_181)
  refine WP.st st359 ?_
  clear st359
  show WP p.tables e below _ T359 (mkF m 184 #[.val (.ref a1), .val (.int p1), .val (.long q1), .second, .val (.long q2), .second, .val (.int p3), .val (.long (own_bit p1)), .second, .val (.int (0 : Int32)), .val (.int (0 : Int32)), .unset] [(.long u_duplicated), (.ref a1)])
  have bk360 : ∀ t, Steps p.tables e below (T359.setTop (mkF m 186 #[.val (.ref a1), .val (.int p1), .val (.long q1), .second, .val (.long q2), .second, .val (.int p3), .val (.long (own_bit p1)), .second, .val (.int (0 : Int32)), .val (.int (0 : Int32)), .unset] [(.long (u_duplicated + (1 : Int64))), (.ref a1)])) t → Steps p.tables e below (T359.setTop (mkF m 184 #[.val (.ref a1), .val (.int p1), .val (.long q1), .second, .val (.long q2), .second, .val (.int p3), .val (.long (own_bit p1)), .second, .val (.int (0 : Int32)), .val (.int (0 : Int32)), .unset] [(.long u_duplicated), (.ref a1)])) t := fun t k => by
    refine XS.lconst X359.here hx rfl (hb hby d3_184) ?_
    refine XS.ladd X359.here hx rfl (hb hby d3_185) rfl ?_
    exact k
  refine WP.st bk360 ?_
  clear bk360
  obtain ⟨T361, h361, X361, e361, W361, st361⟩ := putF X359 hx hZ hown (host := "") (Or.inl (hw _ (List.mem_of_getElem? (i := 46) rfl))) Via.refl e359 F_a1_duplicated E_a1 (Or.inl (hw _ (List.mem_of_getElem? (i := 47) rfl))) (hw _ (List.mem_of_getElem? (i := 1) rfl)) (ty := .long) (by decide) rfl rfl (g := (mkF m 186 #[.val (.ref a1), .val (.int p1), .val (.long q1), .second, .val (.long q2), .second, .val (.int p3), .val (.long (own_bit p1)), .second, .val (.int (0 : Int32)), .val (.int (0 : Int32)), .unset] [(.long (u_duplicated + (1 : Int64))), (.ref a1)])) rfl rfl (hb hby d3_186)
  refine WP.st st361 ?_
  clear st361
  replace E_a1 := E_a1.wr W361
  replace F_a1_highestSequence := F_a1_highestSequence.other W361 (Or.inr (sn_64 hw))
  replace F_a1_messages := F_a1_messages.other W361 (Or.inr (sn_65 hw))
  replace F_a1_delivered := F_a1_delivered.other W361 (Or.inr (sn_66 hw))
  replace F_a1_late := F_a1_late.other W361 (Or.inr (sn_67 hw))
  replace F_a1_outOfOrder := F_a1_outOfOrder.other W361 (Or.inr (sn_68 hw))
  replace F_a1_duplicated := F_a1_duplicated.same W361
  replace F_a1_lastDeliveryNanos := F_a1_lastDeliveryNanos.other W361 (Or.inr (sn_69 hw))
  replace F_a1_seen := F_a1_seen.other W361 (Or.inr (sn_70 hw))
  replace F_a1_latenciesMicros := F_a1_latenciesMicros.other W361 (Or.inr (sn_71 hw))
  replace V_ts := V_ts.other W361 (Ne.symm ne_a1_ts)
  replace V_tl := V_tl.other W361 (Ne.symm ne_a1_tl)
  replace Z0 := Nat.le_trans Z0 (Keep.of_wr W361).1
  replace KP := KP.wr W361 (Or.inl (List.mem_of_getElem? (i := 0) rfl))
  replace NF := Fr.snoc X361 NF g_a1
  clear W361
  show WP p.tables e below _ T361 (mkF m 189 #[.val (.ref a1), .val (.int p1), .val (.long q1), .second, .val (.long q2), .second, .val (.int p3), .val (.long (own_bit p1)), .second, .val (.int (0 : Int32)), .val (.int (0 : Int32)), .unset] [])
  have bk362 : ∀ t, Steps p.tables e below (T361.setTop (mkF m 191 #[.val (.ref a1), .val (.int p1), .val (.long q1), .second, .val (.long q2), .second, .val (.int p3), .val (.long (own_bit p1)), .second, .val (.int (0 : Int32)), .val (.int (0 : Int32)), .unset] [(.int (0 : Int32))])) t → Steps p.tables e below (T361.setTop (mkF m 189 #[.val (.ref a1), .val (.int p1), .val (.long q1), .second, .val (.long q2), .second, .val (.int p3), .val (.long (own_bit p1)), .second, .val (.int (0 : Int32)), .val (.int (0 : Int32)), .unset] [])) t := fun t k => by
    refine XS.iload X361.here hx rfl (hb hby d3_189) rfl ?_
    exact k
  refine WP.st bk362 ?_
  clear bk362
  subst hG
  obtain ⟨fs, hr, hrun, hended, hW, hsame⟩ := X361.leave (v := some (.int (0 : Int32))) (fun h => by rw [Bd.returns] at h; cases h)
  refine WP.fin ⟨_, _, ?_, hrun, hended, _, _, rfl, ?_, ⟨_, rfl⟩, hW, hsame.mono (by decide) (by decide)⟩
  · exact retN X361 hx (t := .boolean) Bd.returns (by simp) (hb hby d3_191) hr
  · show Q3d Z a1 p1 q1 q2 p3 u_highestSequence u_messages u_delivered u_late u_outOfOrder u_duplicated u_lastDeliveryNanos ts ks tl kl wv v0 v1 v2 v3 v4 v5 v6 v7 v8 v9 v10 v11 v12 v13 v14 v15 h0 n0 _ T361.heap _
    rw [e361]
    exact ⟨(u_duplicated + (1 : Int64)), rfl, NF, KP, F_a1_highestSequence, F_a1_messages, F_a1_delivered, F_a1_late, F_a1_outOfOrder, F_a1_duplicated, F_a1_lastDeliveryNanos, F_a1_seen, F_a1_latenciesMicros, V_ts, V_tl⟩
theorem ef_0 (m : MethodId) (q1 : Int64) (q2 : Int64) (q3 : Int64) (p4 : Int32) (p5 : Int32) (p6 : Int32) : entryFrame m #[(.long q1), (.long q2), (.long q3), (.int p4), (.int p5), (.int p6)] maxLocals = mkF m 0 #[.val (.long q1), .second, .val (.long q2), .second, .val (.long q3), .second, .val (.int p4), .val (.int p5), .val (.int p6), .unset, .unset, .unset, .unset, .unset, .unset, .unset, .unset, .unset, .unset, .unset, .unset] [] := by first | (simp [entryFrame, mkF, argsToLocals, Value.category, maxLocals]; done) | rfl
theorem pd_3 : parseMethodDescriptor "(I)V" = some ⟨[.int], none⟩ := by decide +kernel
theorem pd_4 : parseMethodDescriptor "()[I" = some ⟨[], some (.array .int)⟩ := by decide +kernel
theorem pd_5 : parseMethodDescriptor "(IJJZ)Z" = some ⟨[.int, .long, .long, .boolean], some .boolean⟩ := by decide +kernel
theorem pd_6 : parseMethodDescriptor "(J)I" = some ⟨[.long], some .int⟩ := by decide +kernel
def Q0 (Z : State) (q1 : Int64) (q2 : Int64) (q3 : Int64) (p4 : Int32) (p5 : Int32) (p6 : Int32) (h0 : Heap) (n0 : Nat) (v : Option Value) (h : Heap) (L : List Loc) : Prop := v = some (.int 1) ∧ Fr n0 L
set_option maxRecDepth 65536 in
set_option maxHeartbeats 40000000 in
theorem rm0 (l : Launch) (Z : State) (a0 : Array Value) (hw : ∀ d ∈ tables_1, d.before a0 Z = true) (ws : List Jvm.Cond) (q1 : Int64) (q2 : Int64) (q3 : Int64) (p4 : Int32) (p5 : Int32) (p6 : Int32) (h0 : Heap) (n0 : Nat) (Z0 : n0 ≤ h0.size)  :
    MetFree l x (head1 (Jvm.Cond.code x code maxLocals ret :: ws) room_1) (fun a U => a = #[(.long q1), (.long q2), (.long q3), (.int p4), (.int p5), (.int p6)] ∧ Z.Warmed39 U.vm ∧ U.heap = h0) (fun _ _ _ _ _ => True) (fun _ U o U' => ∃ v L, o = .returned v ∧ Q0 Z q1 q2 q3 p4 p5 p6 h0 n0 v U'.heap L ∧ FrameEnd U o U' L room_1.cells room_1.slots) := by
  refine MetFree.of_bodySF (plainFor_of_name pn_1) hisR ?_
  intro p e s m args below meth c s₁ Bd hml0 hP hK
  obtain ⟨rfl, hZ, hh⟩ := hP
  have hx := Bd.exec
  have hby := Bd.bytes
  have hml : c.maxLocals = 21 := hml0
  have hown : s.vm.findClass "com/example/otayori/otayori/bench/PairTallyLatenciesPinLaw" = some m.cls := findClass_of_methodNamed Bd.named
  have hnm := (name_of_methodNamed Bd.named Bd.method).1
  have X0 : Stand p l e room_1 s m #[(.long q1), (.long q2), (.long q3), (.int p4), (.int p5), (.int p6)] below meth c s₁ [] 0 0 := Stand.of_body Bd
  have e0 : s₁.heap = h0 := by rw [← hh, Bd.state]; rfl
  have NF := Fr.nil n0
  refine WP.go ?_
  refine WP.cast (ef_0 m q1 q2 q3 p4 p5 p6) ?_
  refine WP.name ?_
  intro G hG
  have bk363 : ∀ t, Steps p.tables e below (s₁.setTop (mkF m 4 #[.val (.long q1), .second, .val (.long q2), .second, .val (.long q3), .second, .val (.int p4), .val (.int p5), .val (.int p6), .unset, .unset, .unset, .unset, .unset, .unset, .unset, .unset, .unset, .unset, .unset, .unset] [(.int (p6 &&& (3 : Int32)))])) t → Steps p.tables e below (s₁.setTop (mkF m 0 #[.val (.long q1), .second, .val (.long q2), .second, .val (.long q3), .second, .val (.int p4), .val (.int p5), .val (.int p6), .unset, .unset, .unset, .unset, .unset, .unset, .unset, .unset, .unset, .unset, .unset, .unset] [])) t := fun t k => by
    refine XS.iload X0.here hx rfl (hb hby at_0) rfl ?_
    refine XS.iconst X0.here hx rfl (hb hby at_2) ?_
    refine XS.iand X0.here hx rfl (hb hby at_3) rfl ?_
    exact k
  refine WP.st bk363 ?_
  clear bk363
  have hn := own_and3 p6
  generalize (p6 &&& (3 : Int32)) = nn at hn ⊢
  show WP p.tables e below _ s₁ (mkF m 4 #[.val (.long q1), .second, .val (.long q2), .second, .val (.long q3), .second, .val (.int p4), .val (.int p5), .val (.int p6), .unset, .unset, .unset, .unset, .unset, .unset, .unset, .unset, .unset, .unset, .unset, .unset] [(.int nn)])
  have bk364 : ∀ t, Steps p.tables e below (s₁.setTop (mkF m 11 #[.val (.long q1), .second, .val (.long q2), .second, .val (.long q3), .second, .val (.int p4), .val (.int p5), .val (.int p6), .val (.int nn), .unset, .unset, .unset, .unset, .unset, .unset, .unset, .unset, .unset, .unset, .unset] [(.int (p4 &&& (7 : Int32)))])) t → Steps p.tables e below (s₁.setTop (mkF m 4 #[.val (.long q1), .second, .val (.long q2), .second, .val (.long q3), .second, .val (.int p4), .val (.int p5), .val (.int p6), .unset, .unset, .unset, .unset, .unset, .unset, .unset, .unset, .unset, .unset, .unset, .unset] [(.int nn)])) t := fun t k => by
    refine XS.istore X0.here hx rfl (hb hby at_4) rfl (l' := #[.val (.long q1), .second, .val (.long q2), .second, .val (.long q3), .second, .val (.int p4), .val (.int p5), .val (.int p6), .val (.int nn), .unset, .unset, .unset, .unset, .unset, .unset, .unset, .unset, .unset, .unset, .unset]) rfl ?_
    refine XS.iload X0.here hx rfl (hb hby at_6) rfl ?_
    refine XS.bipush X0.here hx rfl (hb hby at_8) ?_
    refine XS.iand X0.here hx rfl (hb hby at_10) rfl ?_
    exact k
  refine WP.st bk364 ?_
  clear bk364
  obtain ⟨s0, e_s0, hs0⟩ : ∃ z, (p4 &&& (7 : Int32)) = z ∧ own_small z := ⟨_, rfl, own_and7 _⟩
  rw [e_s0]
  show WP p.tables e below _ s₁ (mkF m 11 #[.val (.long q1), .second, .val (.long q2), .second, .val (.long q3), .second, .val (.int p4), .val (.int p5), .val (.int p6), .val (.int nn), .unset, .unset, .unset, .unset, .unset, .unset, .unset, .unset, .unset, .unset, .unset] [(.int s0)])
  have bk365 : ∀ t, Steps p.tables e below (s₁.setTop (mkF m 20 #[.val (.long q1), .second, .val (.long q2), .second, .val (.long q3), .second, .val (.int p4), .val (.int p5), .val (.int p6), .val (.int nn), .val (.int s0), .unset, .unset, .unset, .unset, .unset, .unset, .unset, .unset, .unset, .unset] [(.int (((p4.toUInt32 >>> ((3 : Int32) &&& 31).toUInt32).toInt32) &&& (7 : Int32)))])) t → Steps p.tables e below (s₁.setTop (mkF m 11 #[.val (.long q1), .second, .val (.long q2), .second, .val (.long q3), .second, .val (.int p4), .val (.int p5), .val (.int p6), .val (.int nn), .unset, .unset, .unset, .unset, .unset, .unset, .unset, .unset, .unset, .unset, .unset] [(.int s0)])) t := fun t k => by
    refine XS.istore X0.here hx rfl (hb hby at_11) rfl (l' := #[.val (.long q1), .second, .val (.long q2), .second, .val (.long q3), .second, .val (.int p4), .val (.int p5), .val (.int p6), .val (.int nn), .val (.int s0), .unset, .unset, .unset, .unset, .unset, .unset, .unset, .unset, .unset, .unset]) rfl ?_
    refine XS.iload X0.here hx rfl (hb hby at_13) rfl ?_
    refine XS.iconst X0.here hx rfl (hb hby at_15) ?_
    refine XS.iushr X0.here hx rfl (hb hby at_16) rfl ?_
    show Steps p.tables e below (s₁.setTop (mkF m 17 #[.val (.long q1), .second, .val (.long q2), .second, .val (.long q3), .second, .val (.int p4), .val (.int p5), .val (.int p6), .val (.int nn), .val (.int s0), .unset, .unset, .unset, .unset, .unset, .unset, .unset, .unset, .unset, .unset] [(.int ((p4.toUInt32 >>> ((3 : Int32) &&& 31).toUInt32).toInt32))])) t
    refine XS.bipush X0.here hx rfl (hb hby at_17) ?_
    refine XS.iand X0.here hx rfl (hb hby at_19) rfl ?_
    exact k
  refine WP.st bk365 ?_
  clear bk365
  obtain ⟨s1, e_s1, hs1⟩ : ∃ z, (((p4.toUInt32 >>> ((3 : Int32) &&& 31).toUInt32).toInt32) &&& (7 : Int32)) = z ∧ own_small z := ⟨_, rfl, own_and7 _⟩
  rw [e_s1]
  show WP p.tables e below _ s₁ (mkF m 20 #[.val (.long q1), .second, .val (.long q2), .second, .val (.long q3), .second, .val (.int p4), .val (.int p5), .val (.int p6), .val (.int nn), .val (.int s0), .unset, .unset, .unset, .unset, .unset, .unset, .unset, .unset, .unset, .unset] [(.int s1)])
  have bk366 : ∀ t, Steps p.tables e below (s₁.setTop (mkF m 30 #[.val (.long q1), .second, .val (.long q2), .second, .val (.long q3), .second, .val (.int p4), .val (.int p5), .val (.int p6), .val (.int nn), .val (.int s0), .val (.int s1), .unset, .unset, .unset, .unset, .unset, .unset, .unset, .unset, .unset] [(.int (((p4.toUInt32 >>> ((6 : Int32) &&& 31).toUInt32).toInt32) &&& (7 : Int32)))])) t → Steps p.tables e below (s₁.setTop (mkF m 20 #[.val (.long q1), .second, .val (.long q2), .second, .val (.long q3), .second, .val (.int p4), .val (.int p5), .val (.int p6), .val (.int nn), .val (.int s0), .unset, .unset, .unset, .unset, .unset, .unset, .unset, .unset, .unset, .unset] [(.int s1)])) t := fun t k => by
    refine XS.istore X0.here hx rfl (hb hby at_20) rfl (l' := #[.val (.long q1), .second, .val (.long q2), .second, .val (.long q3), .second, .val (.int p4), .val (.int p5), .val (.int p6), .val (.int nn), .val (.int s0), .val (.int s1), .unset, .unset, .unset, .unset, .unset, .unset, .unset, .unset, .unset]) rfl ?_
    refine XS.iload X0.here hx rfl (hb hby at_22) rfl ?_
    refine XS.bipush X0.here hx rfl (hb hby at_24) ?_
    refine XS.iushr X0.here hx rfl (hb hby at_26) rfl ?_
    show Steps p.tables e below (s₁.setTop (mkF m 27 #[.val (.long q1), .second, .val (.long q2), .second, .val (.long q3), .second, .val (.int p4), .val (.int p5), .val (.int p6), .val (.int nn), .val (.int s0), .val (.int s1), .unset, .unset, .unset, .unset, .unset, .unset, .unset, .unset, .unset] [(.int ((p4.toUInt32 >>> ((6 : Int32) &&& 31).toUInt32).toInt32))])) t
    refine XS.bipush X0.here hx rfl (hb hby at_27) ?_
    refine XS.iand X0.here hx rfl (hb hby at_29) rfl ?_
    exact k
  refine WP.st bk366 ?_
  clear bk366
  obtain ⟨s2, e_s2, hs2⟩ : ∃ z, (((p4.toUInt32 >>> ((6 : Int32) &&& 31).toUInt32).toInt32) &&& (7 : Int32)) = z ∧ own_small z := ⟨_, rfl, own_and7 _⟩
  rw [e_s2]
  show WP p.tables e below _ s₁ (mkF m 30 #[.val (.long q1), .second, .val (.long q2), .second, .val (.long q3), .second, .val (.int p4), .val (.int p5), .val (.int p6), .val (.int nn), .val (.int s0), .val (.int s1), .unset, .unset, .unset, .unset, .unset, .unset, .unset, .unset, .unset] [(.int s2)])
  have bk367 : ∀ t, Steps p.tables e below (s₁.setTop (mkF m 32 #[.val (.long q1), .second, .val (.long q2), .second, .val (.long q3), .second, .val (.int p4), .val (.int p5), .val (.int p6), .val (.int nn), .val (.int s0), .val (.int s1), .val (.int s2), .unset, .unset, .unset, .unset, .unset, .unset, .unset, .unset] [])) t → Steps p.tables e below (s₁.setTop (mkF m 30 #[.val (.long q1), .second, .val (.long q2), .second, .val (.long q3), .second, .val (.int p4), .val (.int p5), .val (.int p6), .val (.int nn), .val (.int s0), .val (.int s1), .unset, .unset, .unset, .unset, .unset, .unset, .unset, .unset, .unset] [(.int s2)])) t := fun t k => by
    refine XS.istore X0.here hx rfl (hb hby at_30) rfl (l' := #[.val (.long q1), .second, .val (.long q2), .second, .val (.long q3), .second, .val (.int p4), .val (.int p5), .val (.int p6), .val (.int nn), .val (.int s0), .val (.int s1), .val (.int s2), .unset, .unset, .unset, .unset, .unset, .unset, .unset, .unset]) rfl ?_
    exact k
  refine WP.st bk367 ?_
  clear bk367
  have J368 : ∀ (Tj368 : State) (Lj368 : List Loc)  (la : Int32), Stand p l e room_1 s m #[(.long q1), (.long q2), (.long q3), (.int p4), (.int p5), (.int p6)] below meth c Tj368 Lj368 0 0 → Tj368.heap = h0 → Fr n0 Lj368 → (la = 0 ∨ la = 1) → WP p.tables e below G Tj368 (mkF m 44 #[.val (.long q1), .second, .val (.long q2), .second, .val (.long q3), .second, .val (.int p4), .val (.int p5), .val (.int p6), .val (.int nn), .val (.int s0), .val (.int s1), .val (.int s2), .unset, .unset, .unset, .unset, .unset, .unset, .unset, .unset] [(.int la)]) := by
    clear NF
    intro Tj368 Lj368  la X368 ej368 NF hla
    have bk369 : ∀ t, Steps p.tables e below (Tj368.setTop (mkF m 46 #[.val (.long q1), .second, .val (.long q2), .second, .val (.long q3), .second, .val (.int p4), .val (.int p5), .val (.int p6), .val (.int nn), .val (.int s0), .val (.int s1), .val (.int s2), .val (.int la), .unset, .unset, .unset, .unset, .unset, .unset, .unset] [])) t → Steps p.tables e below (Tj368.setTop (mkF m 44 #[.val (.long q1), .second, .val (.long q2), .second, .val (.long q3), .second, .val (.int p4), .val (.int p5), .val (.int p6), .val (.int nn), .val (.int s0), .val (.int s1), .val (.int s2), .unset, .unset, .unset, .unset, .unset, .unset, .unset, .unset] [(.int la)])) t := fun t k => by
      refine XS.istore X368.here hx rfl (hb hby at_44) rfl (l' := #[.val (.long q1), .second, .val (.long q2), .second, .val (.long q3), .second, .val (.int p4), .val (.int p5), .val (.int p6), .val (.int nn), .val (.int s0), .val (.int s1), .val (.int s2), .val (.int la), .unset, .unset, .unset, .unset, .unset, .unset, .unset]) rfl ?_
      exact k
    refine WP.st bk369 ?_
    clear bk369
    have J370 : ∀ (Tj370 : State) (Lj370 : List Loc)  (lb : Int32), Stand p l e room_1 s m #[(.long q1), (.long q2), (.long q3), (.int p4), (.int p5), (.int p6)] below meth c Tj370 Lj370 0 0 → Tj370.heap = h0 → Fr n0 Lj370 → (lb = 0 ∨ lb = 1) → WP p.tables e below G Tj370 (mkF m 58 #[.val (.long q1), .second, .val (.long q2), .second, .val (.long q3), .second, .val (.int p4), .val (.int p5), .val (.int p6), .val (.int nn), .val (.int s0), .val (.int s1), .val (.int s2), .val (.int la), .unset, .unset, .unset, .unset, .unset, .unset, .unset] [(.int lb)]) := by
      clear NF
      intro Tj370 Lj370  lb X370 ej370 NF hlb
      have bk371 : ∀ t, Steps p.tables e below (Tj370.setTop (mkF m 60 #[.val (.long q1), .second, .val (.long q2), .second, .val (.long q3), .second, .val (.int p4), .val (.int p5), .val (.int p6), .val (.int nn), .val (.int s0), .val (.int s1), .val (.int s2), .val (.int la), .val (.int lb), .unset, .unset, .unset, .unset, .unset, .unset] [])) t → Steps p.tables e below (Tj370.setTop (mkF m 58 #[.val (.long q1), .second, .val (.long q2), .second, .val (.long q3), .second, .val (.int p4), .val (.int p5), .val (.int p6), .val (.int nn), .val (.int s0), .val (.int s1), .val (.int s2), .val (.int la), .unset, .unset, .unset, .unset, .unset, .unset, .unset] [(.int lb)])) t := fun t k => by
        refine XS.istore X370.here hx rfl (hb hby at_58) rfl (l' := #[.val (.long q1), .second, .val (.long q2), .second, .val (.long q3), .second, .val (.int p4), .val (.int p5), .val (.int p6), .val (.int nn), .val (.int s0), .val (.int s1), .val (.int s2), .val (.int la), .val (.int lb), .unset, .unset, .unset, .unset, .unset, .unset]) rfl ?_
        exact k
      refine WP.st bk371 ?_
      clear bk371
      have J372 : ∀ (Tj372 : State) (Lj372 : List Loc)  (lc : Int32), Stand p l e room_1 s m #[(.long q1), (.long q2), (.long q3), (.int p4), (.int p5), (.int p6)] below meth c Tj372 Lj372 0 0 → Tj372.heap = h0 → Fr n0 Lj372 → (lc = 0 ∨ lc = 1) → WP p.tables e below G Tj372 (mkF m 72 #[.val (.long q1), .second, .val (.long q2), .second, .val (.long q3), .second, .val (.int p4), .val (.int p5), .val (.int p6), .val (.int nn), .val (.int s0), .val (.int s1), .val (.int s2), .val (.int la), .val (.int lb), .unset, .unset, .unset, .unset, .unset, .unset] [(.int lc)]) := by
        clear NF
        intro Tj372 Lj372  lc X372 ej372 NF hlc
        have bk373 : ∀ t, Steps p.tables e below (Tj372.setTop (mkF m 74 #[.val (.long q1), .second, .val (.long q2), .second, .val (.long q3), .second, .val (.int p4), .val (.int p5), .val (.int p6), .val (.int nn), .val (.int s0), .val (.int s1), .val (.int s2), .val (.int la), .val (.int lb), .val (.int lc), .unset, .unset, .unset, .unset, .unset] [])) t → Steps p.tables e below (Tj372.setTop (mkF m 72 #[.val (.long q1), .second, .val (.long q2), .second, .val (.long q3), .second, .val (.int p4), .val (.int p5), .val (.int p6), .val (.int nn), .val (.int s0), .val (.int s1), .val (.int s2), .val (.int la), .val (.int lb), .unset, .unset, .unset, .unset, .unset, .unset] [(.int lc)])) t := fun t k => by
          refine XS.istore X372.here hx rfl (hb hby at_72) rfl (l' := #[.val (.long q1), .second, .val (.long q2), .second, .val (.long q3), .second, .val (.int p4), .val (.int p5), .val (.int p6), .val (.int nn), .val (.int s0), .val (.int s1), .val (.int s2), .val (.int la), .val (.int lb), .val (.int lc), .unset, .unset, .unset, .unset, .unset]) rfl ?_
          exact k
        refine WP.st bk373 ?_
        clear bk373
        obtain ⟨T374, h374, X374, e374, E374, A374, D374, -, st374⟩ := newO X372 hx hZ hown (hw _ (List.mem_of_getElem? (i := 0) rfl)) (hw _ (List.mem_of_getElem? (i := 1) rfl)) (hw _ (List.mem_of_getElem? (i := 2) rfl)) ej372 (g := (mkF m 74 #[.val (.long q1), .second, .val (.long q2), .second, .val (.long q3), .second, .val (.int p4), .val (.int p5), .val (.int p6), .val (.int nn), .val (.int s0), .val (.int s1), .val (.int s2), .val (.int la), .val (.int lb), .val (.int lc), .unset, .unset, .unset, .unset, .unset] [])) rfl (hb hby at_74) (by decide) (by decide)
        obtain ⟨b374, g374⟩ : ∃ z, z = h0.size := ⟨_, rfl⟩
        rw [← g374] at A374 D374 st374
        refine WP.st st374 ?_
        clear st374
        have g_b374 : n0 ≤ b374 := Nat.le_trans Z0 (Nat.le_of_eq g374.symm)
        replace Z0 := Nat.le_trans Z0 E374.1
        have E_b374 := A374
        have F_b374_highestSequence : Fld Z h374 b374 "com/example/otayori/otayori/bench/PairTally" "highestSequence" "I" (.int (0 : Int32)) := D374 (Or.inl (hw _ (List.mem_of_getElem? (i := 10) rfl))) (ty := .int) (by decide)
        have F_b374_latenciesMicros : Fld Z h374 b374 "com/example/otayori/otayori/bench/PairTally" "latenciesMicros" "[I" .null := D374 (Or.inl (hw _ (List.mem_of_getElem? (i := 13) rfl))) (ty := (.array .int)) (by decide)
        have F_b374_messages : Fld Z h374 b374 "com/example/otayori/otayori/bench/PairTally" "messages" "I" (.int (0 : Int32)) := D374 (Or.inr (hw _ (List.mem_of_getElem? (i := 15) rfl))) (ty := .int) (by decide)
        have F_b374_seen : Fld Z h374 b374 "com/example/otayori/otayori/bench/PairTally" "seen" "[J" .null := D374 (Or.inr (hw _ (List.mem_of_getElem? (i := 18) rfl))) (ty := (.array .long)) (by decide)
        have F_b374_delivered : Fld Z h374 b374 "com/example/otayori/otayori/bench/PairTally" "delivered" "J" (.long (0 : Int64)) := D374 (Or.inl (hw _ (List.mem_of_getElem? (i := 25) rfl))) (ty := .long) (by decide)
        have F_b374_late : Fld Z h374 b374 "com/example/otayori/otayori/bench/PairTally" "late" "J" (.long (0 : Int64)) := D374 (Or.inl (hw _ (List.mem_of_getElem? (i := 27) rfl))) (ty := .long) (by decide)
        have F_b374_outOfOrder : Fld Z h374 b374 "com/example/otayori/otayori/bench/PairTally" "outOfOrder" "J" (.long (0 : Int64)) := D374 (Or.inl (hw _ (List.mem_of_getElem? (i := 44) rfl))) (ty := .long) (by decide)
        have F_b374_duplicated : Fld Z h374 b374 "com/example/otayori/otayori/bench/PairTally" "duplicated" "J" (.long (0 : Int64)) := D374 (Or.inl (hw _ (List.mem_of_getElem? (i := 47) rfl))) (ty := .long) (by decide)
        have F_b374_lastDeliveryNanos : Fld Z h374 b374 "com/example/otayori/otayori/bench/PairTally" "lastDeliveryNanos" "J" (.long (0 : Int64)) := D374 (Or.inl (hw _ (List.mem_of_getElem? (i := 66) rfl))) (ty := .long) (by decide)
        clear D374 A374
        show WP p.tables e below _ T374 (mkF m 77 #[.val (.long q1), .second, .val (.long q2), .second, .val (.long q3), .second, .val (.int p4), .val (.int p5), .val (.int p6), .val (.int nn), .val (.int s0), .val (.int s1), .val (.int s2), .val (.int la), .val (.int lb), .val (.int lc), .unset, .unset, .unset, .unset, .unset] [(.ref b374)])
        have bk375 : ∀ t, Steps p.tables e below (T374.setTop (mkF m 80 #[.val (.long q1), .second, .val (.long q2), .second, .val (.long q3), .second, .val (.int p4), .val (.int p5), .val (.int p6), .val (.int nn), .val (.int s0), .val (.int s1), .val (.int s2), .val (.int la), .val (.int lb), .val (.int lc), .unset, .unset, .unset, .unset, .unset] [(.int (8 : Int32)), (.ref b374), (.ref b374)])) t → Steps p.tables e below (T374.setTop (mkF m 77 #[.val (.long q1), .second, .val (.long q2), .second, .val (.long q3), .second, .val (.int p4), .val (.int p5), .val (.int p6), .val (.int nn), .val (.int s0), .val (.int s1), .val (.int s2), .val (.int la), .val (.int lb), .val (.int lc), .unset, .unset, .unset, .unset, .unset] [(.ref b374)])) t := fun t k => by
          refine XS.dup X374.here hx rfl (hb hby at_77) rfl rfl ?_
          refine XS.bipush X374.here hx rfl (hb hby at_78) ?_
          exact k
        refine WP.st bk375 ?_
        clear bk375
        obtain ⟨_, _, ⟨T376, L376, k376, n376⟩, -, X376, ⟨Lc376, hQ376, l376, y376, z376⟩, st376⟩ := X374.specialBack hx (y := (⟨"com/example/otayori/otayori/bench/PairTally", "<init>", "(I)V"⟩ : MethodName)) rfl hown (mvT hZ (hw _ (List.mem_of_getElem? (i := 3) rfl))) (mvT hZ (hw _ (List.mem_of_getElem? (i := 4) rfl))) (mvT hZ (hw _ (List.mem_of_getElem? (i := 5) rfl))) (by decide) (backOf (W := 1) (rm1 l Z a0 hw [] b374 (0 : Int32) Value.null (0 : Int32) Value.null (0 : Int64) (0 : Int64) (0 : Int64) (0 : Int64) (0 : Int64) h374 n0 Z0 E_b374 g_b374 F_b374_highestSequence F_b374_latenciesMicros F_b374_messages F_b374_seen F_b374_delivered F_b374_late F_b374_outOfOrder F_b374_duplicated F_b374_lastDeliveryNanos) hZ (hw _ (List.mem_of_getElem? (i := 5) rfl)) (hw _ (List.mem_of_getElem? (i := 2) rfl)) (by decide) (by decide)) (g := (mkF m 80 #[.val (.long q1), .second, .val (.long q2), .second, .val (.long q3), .second, .val (.int p4), .val (.int p5), .val (.int p6), .val (.int nn), .val (.int s0), .val (.int s1), .val (.int s2), .val (.int la), .val (.int lb), .val (.int lc), .unset, .unset, .unset, .unset, .unset] [(.int (8 : Int32)), (.ref b374), (.ref b374)])) rfl (by rw [hml]; rfl) (Steps.refl _) (a := b374) (argsL := [(.int (8 : Int32))]) (rest := [(.ref b374)]) (lenOf pd_3 rfl) rfl (by show 2 * 0 + _ ≤ _; exact Nat.le_of_eq rfl) (hb hby at_80) (fun _ _ => ⟨rfl, e374, (by decide : 1 + 2 ≤ _), (by decide : 9 + 17 ≤ _)⟩)
        dsimp only [Pt.U, Pt.locs, Pt.cells, Pt.slots] at X376 l376 y376 z376 st376 hQ376
        subst l376 y376 z376
        obtain ⟨tl_376, kl_376, ts_376, ks_376, rfl, Nq376, Kq376, nF376_b374_highestSequence, nF376_b374_latenciesMicros, nF376_b374_messages, nF376_b374_seen, nF376_b374_delivered, nF376_b374_late, nF376_b374_outOfOrder, nF376_b374_duplicated, nF376_b374_lastDeliveryNanos, szq_tl_376, g_tl_376, szq_ts_376, g_ts_376, ne_tl_376_ts_376, nA376_tl_376, nA376_ts_376⟩ := hQ376
        replace NF := Fr.app NF Nq376
        clear Nq376
        refine WP.tr st376 ?_
        clear st376
        obtain ⟨h376, e376⟩ : ∃ h, T376.heap = h := ⟨_, rfl⟩
        rw [e376] at Kq376 nF376_b374_highestSequence nF376_b374_latenciesMicros nF376_b374_messages nF376_b374_seen nF376_b374_delivered nF376_b374_late nF376_b374_outOfOrder nF376_b374_duplicated nF376_b374_lastDeliveryNanos nA376_tl_376 nA376_ts_376
        have ne_b374_tl_376 : b374 ≠ tl_376 := Nat.ne_of_lt (Nat.lt_of_lt_of_le E_b374.lt szq_tl_376)
        have ne_b374_ts_376 : b374 ≠ ts_376 := Nat.ne_of_lt (Nat.lt_of_lt_of_le E_b374.lt szq_ts_376)
        replace E_b374 := E_b374.keep Kq376
        clear F_b374_highestSequence
        clear F_b374_latenciesMicros
        clear F_b374_messages
        clear F_b374_seen
        clear F_b374_delivered
        clear F_b374_late
        clear F_b374_outOfOrder
        clear F_b374_duplicated
        clear F_b374_lastDeliveryNanos
        replace Z0 := Nat.le_trans Z0 Kq376.1
        clear Kq376
        have F_b374_highestSequence := nF376_b374_highestSequence
        clear nF376_b374_highestSequence
        have F_b374_latenciesMicros := nF376_b374_latenciesMicros
        clear nF376_b374_latenciesMicros
        have F_b374_messages := nF376_b374_messages
        clear nF376_b374_messages
        have F_b374_seen := nF376_b374_seen
        clear nF376_b374_seen
        have F_b374_delivered := nF376_b374_delivered
        clear nF376_b374_delivered
        have F_b374_late := nF376_b374_late
        clear nF376_b374_late
        have F_b374_outOfOrder := nF376_b374_outOfOrder
        clear nF376_b374_outOfOrder
        have F_b374_duplicated := nF376_b374_duplicated
        clear nF376_b374_duplicated
        have F_b374_lastDeliveryNanos := nF376_b374_lastDeliveryNanos
        clear nF376_b374_lastDeliveryNanos
        have V_tl_376 := nA376_tl_376
        clear nA376_tl_376
        have V_ts_376 := nA376_ts_376
        clear nA376_ts_376
        show WP p.tables e below _ T376 (mkF m 83 #[.val (.long q1), .second, .val (.long q2), .second, .val (.long q3), .second, .val (.int p4), .val (.int p5), .val (.int p6), .val (.int nn), .val (.int s0), .val (.int s1), .val (.int s2), .val (.int la), .val (.int lb), .val (.int lc), .unset, .unset, .unset, .unset, .unset] [(.ref b374)])
        have bk377 : ∀ t, Steps p.tables e below (T376.setTop (mkF m 86 #[.val (.long q1), .second, .val (.long q2), .second, .val (.long q3), .second, .val (.int p4), .val (.int p5), .val (.int p6), .val (.int nn), .val (.int s0), .val (.int s1), .val (.int s2), .val (.int la), .val (.int lb), .val (.int lc), .val (.ref b374), .unset, .unset, .unset, .unset] [(.int (3 : Int32))])) t → Steps p.tables e below (T376.setTop (mkF m 83 #[.val (.long q1), .second, .val (.long q2), .second, .val (.long q3), .second, .val (.int p4), .val (.int p5), .val (.int p6), .val (.int nn), .val (.int s0), .val (.int s1), .val (.int s2), .val (.int la), .val (.int lb), .val (.int lc), .unset, .unset, .unset, .unset, .unset] [(.ref b374)])) t := fun t k => by
          refine XS.astore X376.here hx rfl (hb hby at_83) rfl rfl (l' := #[.val (.long q1), .second, .val (.long q2), .second, .val (.long q3), .second, .val (.int p4), .val (.int p5), .val (.int p6), .val (.int nn), .val (.int s0), .val (.int s1), .val (.int s2), .val (.int la), .val (.int lb), .val (.int lc), .val (.ref b374), .unset, .unset, .unset, .unset]) rfl ?_
          refine XS.iconst X376.here hx rfl (hb hby at_85) ?_
          exact k
        refine WP.st bk377 ?_
        clear bk377
        obtain ⟨T378, h378, k378, X378, e378, E378, A378, st378⟩ := newP X376 hx hZ (hw _ (List.mem_of_getElem? (i := 11) rfl)) e376 (g := (mkF m 86 #[.val (.long q1), .second, .val (.long q2), .second, .val (.long q3), .second, .val (.int p4), .val (.int p5), .val (.int p6), .val (.int nn), .val (.int s0), .val (.int s1), .val (.int s2), .val (.int la), .val (.int lb), .val (.int lc), .val (.ref b374), .unset, .unset, .unset, .unset] [(.int (3 : Int32))])) rfl (hb hby at_86) rfl (by decide) (cap := 3) (by decide) (by decide) (by decide) (by decide)
        obtain ⟨b378, g378⟩ : ∃ z, z = h376.size := ⟨_, rfl⟩
        rw [← g378] at A378 st378
        refine WP.st st378 ?_
        clear st378
        have ne_b374_b378 : b374 ≠ b378 := Nat.ne_of_lt (Nat.lt_of_lt_of_le E_b374.lt (Nat.le_of_eq g378.symm))
        have ne_tl_376_b378 : tl_376 ≠ b378 := Nat.ne_of_lt (Nat.lt_of_lt_of_le V_tl_376.lt (Nat.le_of_eq g378.symm))
        have ne_ts_376_b378 : ts_376 ≠ b378 := Nat.ne_of_lt (Nat.lt_of_lt_of_le V_ts_376.lt (Nat.le_of_eq g378.symm))
        have g_b378 : n0 ≤ b378 := Nat.le_trans Z0 (Nat.le_of_eq g378.symm)
        replace E_b374 := E_b374.ext E378
        replace F_b374_highestSequence := F_b374_highestSequence.ext E378
        replace F_b374_latenciesMicros := F_b374_latenciesMicros.ext E378
        replace F_b374_messages := F_b374_messages.ext E378
        replace F_b374_seen := F_b374_seen.ext E378
        replace F_b374_delivered := F_b374_delivered.ext E378
        replace F_b374_late := F_b374_late.ext E378
        replace F_b374_outOfOrder := F_b374_outOfOrder.ext E378
        replace F_b374_duplicated := F_b374_duplicated.ext E378
        replace F_b374_lastDeliveryNanos := F_b374_lastDeliveryNanos.ext E378
        replace V_tl_376 := V_tl_376.ext E378
        replace V_ts_376 := V_ts_376.ext E378
        replace Z0 := Nat.le_trans Z0 E378.1
        have V_b378 : Arv Z h378 b378 k378 .int (3 : Int32) [(.int (0 : Int32)), (.int (0 : Int32)), (.int (0 : Int32))] (.int (0 : Int32)) := (Arv.new A378 (by decide)).pad (pad_rep [] (.int (0 : Int32)) 3)
        show WP p.tables e below _ T378 (mkF m 88 #[.val (.long q1), .second, .val (.long q2), .second, .val (.long q3), .second, .val (.int p4), .val (.int p5), .val (.int p6), .val (.int nn), .val (.int s0), .val (.int s1), .val (.int s2), .val (.int la), .val (.int lb), .val (.int lc), .val (.ref b374), .unset, .unset, .unset, .unset] [(.ref b378)])
        have bk379 : ∀ t, Steps p.tables e below (T378.setTop (mkF m 93 #[.val (.long q1), .second, .val (.long q2), .second, .val (.long q3), .second, .val (.int p4), .val (.int p5), .val (.int p6), .val (.int nn), .val (.int s0), .val (.int s1), .val (.int s2), .val (.int la), .val (.int lb), .val (.int lc), .val (.ref b374), .val (.ref b378), .val (.int (0 : Int32)), .unset, .unset] [])) t → Steps p.tables e below (T378.setTop (mkF m 88 #[.val (.long q1), .second, .val (.long q2), .second, .val (.long q3), .second, .val (.int p4), .val (.int p5), .val (.int p6), .val (.int nn), .val (.int s0), .val (.int s1), .val (.int s2), .val (.int la), .val (.int lb), .val (.int lc), .val (.ref b374), .unset, .unset, .unset, .unset] [(.ref b378)])) t := fun t k => by
          refine XS.astore X378.here hx rfl (hb hby at_88) rfl rfl (l' := #[.val (.long q1), .second, .val (.long q2), .second, .val (.long q3), .second, .val (.int p4), .val (.int p5), .val (.int p6), .val (.int nn), .val (.int s0), .val (.int s1), .val (.int s2), .val (.int la), .val (.int lb), .val (.int lc), .val (.ref b374), .val (.ref b378), .unset, .unset, .unset]) rfl ?_
          refine XS.iconst X378.here hx rfl (hb hby at_90) ?_
          refine XS.istore X378.here hx rfl (hb hby at_91) rfl (l' := #[.val (.long q1), .second, .val (.long q2), .second, .val (.long q3), .second, .val (.int p4), .val (.int p5), .val (.int p6), .val (.int nn), .val (.int s0), .val (.int s1), .val (.int s2), .val (.int la), .val (.int lb), .val (.int lc), .val (.ref b374), .val (.ref b378), .val (.int (0 : Int32)), .unset, .unset]) rfl ?_
          exact k
        refine WP.st bk379 ?_
        clear bk379
        rcases hn with rfl | rfl | rfl | rfl
        · skip
          show WP p.tables e below _ T378 (mkF m 93 #[.val (.long q1), .second, .val (.long q2), .second, .val (.long q3), .second, .val (.int p4), .val (.int p5), .val (.int p6), .val (.int (0 : Int32)), .val (.int s0), .val (.int s1), .val (.int s2), .val (.int la), .val (.int lb), .val (.int lc), .val (.ref b374), .val (.ref b378), .val (.int (0 : Int32)), .unset, .unset] [])
          have bk380 : ∀ t, Steps p.tables e below (T378.setTop (mkF m 262 #[.val (.long q1), .second, .val (.long q2), .second, .val (.long q3), .second, .val (.int p4), .val (.int p5), .val (.int p6), .val (.int (0 : Int32)), .val (.int s0), .val (.int s1), .val (.int s2), .val (.int la), .val (.int lb), .val (.int lc), .val (.ref b374), .val (.ref b378), .val (.int (0 : Int32)), .unset, .unset] [(.ref b374)])) t → Steps p.tables e below (T378.setTop (mkF m 93 #[.val (.long q1), .second, .val (.long q2), .second, .val (.long q3), .second, .val (.int p4), .val (.int p5), .val (.int p6), .val (.int (0 : Int32)), .val (.int s0), .val (.int s1), .val (.int s2), .val (.int la), .val (.int lb), .val (.int lc), .val (.ref b374), .val (.ref b378), .val (.int (0 : Int32)), .unset, .unset] [])) t := fun t k => by
            refine XS.iload X378.here hx rfl (hb hby at_93) rfl ?_
            refine XS.iconst X378.here hx rfl (hb hby at_95) ?_
            refine XS.icmpYes X378.here hx rfl (pc0 := 96) (pc' := 131) rfl (hb hby at_96) rfl (tlt (by decide : (0 : Int32) < (1 : Int32))).1 (by decide) (by decide) ?_
            refine XS.iload X378.here hx rfl (hb hby at_131) rfl ?_
            show Steps p.tables e below (T378.setTop (mkF m 133 #[.val (.long q1), .second, .val (.long q2), .second, .val (.long q3), .second, .val (.int p4), .val (.int p5), .val (.int p6), .val (.int (0 : Int32)), .val (.int s0), .val (.int s1), .val (.int s2), .val (.int la), .val (.int lb), .val (.int lc), .val (.ref b374), .val (.ref b378), .val (.int (0 : Int32)), .unset, .unset] [(.int (0 : Int32))])) t
            refine XS.iconst X378.here hx rfl (hb hby at_133) ?_
            refine XS.icmpYes X378.here hx rfl (pc0 := 134) (pc' := 190) rfl (hb hby at_134) rfl (tlt (by decide : (0 : Int32) < (2 : Int32))).1 (by decide) (by decide) ?_
            refine XS.iload X378.here hx rfl (hb hby at_190) rfl ?_
            refine XS.iconst X378.here hx rfl (hb hby at_192) ?_
            show Steps p.tables e below (T378.setTop (mkF m 193 #[.val (.long q1), .second, .val (.long q2), .second, .val (.long q3), .second, .val (.int p4), .val (.int p5), .val (.int p6), .val (.int (0 : Int32)), .val (.int s0), .val (.int s1), .val (.int s2), .val (.int la), .val (.int lb), .val (.int lc), .val (.ref b374), .val (.ref b378), .val (.int (0 : Int32)), .unset, .unset] [(.int (3 : Int32)), (.int (0 : Int32))])) t
            refine XS.icmpYes X378.here hx rfl (pc0 := 193) (pc' := 260) rfl (hb hby at_193) rfl (tlt (by decide : (0 : Int32) < (3 : Int32))).1 (by decide) (by decide) ?_
            refine XS.aload X378.here hx rfl (hb hby at_260) rfl rfl ?_
            exact k
          refine WP.st bk380 ?_
          clear bk380
          obtain ⟨cq381, kq381, q381a, q381b, q381c⟩ := isOf hZ e378 E_b374
          obtain ⟨_, _, ⟨T381, L381, k381, n381⟩, -, X381, ⟨Lc381, hQ381, l381, y381, z381⟩, st381⟩ := X378.virtualBack hx (y := (⟨"com/example/otayori/otayori/bench/PairTally", "latencies", "()[I"⟩ : MethodName)) (z := (⟨"com/example/otayori/otayori/bench/PairTally", "latencies", "()[I"⟩ : MethodName)) hown (mvT hZ (hw _ (List.mem_of_getElem? (i := 48) rfl))) (mvT hZ (hw _ (List.mem_of_getElem? (i := 49) rfl))) (notFace_of_selects (args := #[]) (mvT hZ (hw _ (List.mem_of_getElem? (i := 51) rfl)))) (mvT hZ (hw _ (List.mem_of_getElem? (i := 51) rfl))) (mvT hZ (hw _ (List.mem_of_getElem? (i := 50) rfl))) (by decide) (backOf (W := 0) (rm7k0 l Z a0 hw [] b374 tl_376 kl_376 (0 : Int64) (0 : Int64) (.int (0 : Int32)) (.int (0 : Int32)) (.int (0 : Int32)) (.int (0 : Int32)) (.int (0 : Int32)) (.int (0 : Int32)) (.int (0 : Int32)) (.int (0 : Int32)) (.int (0 : Int32)) (.int (0 : Int32)) (.int (0 : Int32)) (.int (0 : Int32)) (.int (0 : Int32)) (.int (0 : Int32)) (.int (0 : Int32)) (.int (0 : Int32)) h378 n0 Z0 F_b374_latenciesMicros F_b374_delivered F_b374_late V_tl_376 (by decide : (0 : Int64) + (0 : Int64) = (0 : Int64))) hZ (hw _ (List.mem_of_getElem? (i := 52) rfl)) (hw _ (List.mem_of_getElem? (i := 2) rfl)) (by decide) (by decide)) q381a q381c (g := (mkF m 262 #[.val (.long q1), .second, .val (.long q2), .second, .val (.long q3), .second, .val (.int p4), .val (.int p5), .val (.int p6), .val (.int (0 : Int32)), .val (.int s0), .val (.int s1), .val (.int s2), .val (.int la), .val (.int lb), .val (.int lc), .val (.ref b374), .val (.ref b378), .val (.int (0 : Int32)), .unset, .unset] [(.ref b374)])) rfl (by rw [hml]; rfl) (Steps.refl _) (argsL := []) (rest := []) (lenOf pd_4 rfl) rfl (by show 2 * 0 + _ ≤ _; exact Nat.le_of_eq rfl) (hb hby at_262) (fun _ _ => ⟨rfl, e378, (by decide : 4 + 1 ≤ _), (by decide : 29 + 0 ≤ _)⟩)
          dsimp only [Pt.U, Pt.locs, Pt.cells, Pt.slots] at X381 l381 y381 z381 st381 hQ381
          subst l381 y381 z381
          obtain ⟨r_381, kr_381, rfl, Nq381, Kq381, szq_r_381, nA381_r_381⟩ := hQ381
          replace NF := Fr.app NF Nq381
          clear Nq381
          refine WP.tr st381 ?_
          clear st381
          obtain ⟨h381, e381⟩ : ∃ h, T381.heap = h := ⟨_, rfl⟩
          rw [e381] at Kq381 nA381_r_381
          have ne_b374_r_381 : b374 ≠ r_381 := Nat.ne_of_lt (Nat.lt_of_lt_of_le E_b374.lt szq_r_381)
          have ne_tl_376_r_381 : tl_376 ≠ r_381 := Nat.ne_of_lt (Nat.lt_of_lt_of_le V_tl_376.lt szq_r_381)
          have ne_ts_376_r_381 : ts_376 ≠ r_381 := Nat.ne_of_lt (Nat.lt_of_lt_of_le V_ts_376.lt szq_r_381)
          have ne_b378_r_381 : b378 ≠ r_381 := Nat.ne_of_lt (Nat.lt_of_lt_of_le V_b378.lt szq_r_381)
          replace E_b374 := E_b374.keep Kq381
          replace F_b374_highestSequence := F_b374_highestSequence.keep Kq381 (by exact nin0)
          replace F_b374_latenciesMicros := F_b374_latenciesMicros.keep Kq381 (by exact nin0)
          replace F_b374_messages := F_b374_messages.keep Kq381 (by exact nin0)
          replace F_b374_seen := F_b374_seen.keep Kq381 (by exact nin0)
          replace F_b374_delivered := F_b374_delivered.keep Kq381 (by exact nin0)
          replace F_b374_late := F_b374_late.keep Kq381 (by exact nin0)
          replace F_b374_outOfOrder := F_b374_outOfOrder.keep Kq381 (by exact nin0)
          replace F_b374_duplicated := F_b374_duplicated.keep Kq381 (by exact nin0)
          replace F_b374_lastDeliveryNanos := F_b374_lastDeliveryNanos.keep Kq381 (by exact nin0)
          replace V_tl_376 := V_tl_376.keep Kq381 (by exact nin0)
          replace V_ts_376 := V_ts_376.keep Kq381 (by exact nin0)
          replace V_b378 := V_b378.keep Kq381 (by exact nin0)
          replace Z0 := Nat.le_trans Z0 Kq381.1
          clear Kq381
          have V_r_381 := nA381_r_381
          clear nA381_r_381
          show WP p.tables e below _ T381 (mkF m 265 #[.val (.long q1), .second, .val (.long q2), .second, .val (.long q3), .second, .val (.int p4), .val (.int p5), .val (.int p6), .val (.int (0 : Int32)), .val (.int s0), .val (.int s1), .val (.int s2), .val (.int la), .val (.int lb), .val (.int lc), .val (.ref b374), .val (.ref b378), .val (.int (0 : Int32)), .unset, .unset] [(.ref r_381)])
          have bk382 : ∀ t, Steps p.tables e below (T381.setTop (mkF m 269 #[.val (.long q1), .second, .val (.long q2), .second, .val (.long q3), .second, .val (.int p4), .val (.int p5), .val (.int p6), .val (.int (0 : Int32)), .val (.int s0), .val (.int s1), .val (.int s2), .val (.int la), .val (.int lb), .val (.int lc), .val (.ref b374), .val (.ref b378), .val (.int (0 : Int32)), .val (.ref r_381), .unset] [(.ref r_381)])) t → Steps p.tables e below (T381.setTop (mkF m 265 #[.val (.long q1), .second, .val (.long q2), .second, .val (.long q3), .second, .val (.int p4), .val (.int p5), .val (.int p6), .val (.int (0 : Int32)), .val (.int s0), .val (.int s1), .val (.int s2), .val (.int la), .val (.int lb), .val (.int lc), .val (.ref b374), .val (.ref b378), .val (.int (0 : Int32)), .unset, .unset] [(.ref r_381)])) t := fun t k => by
            refine XS.astore X381.here hx rfl (hb hby at_265) rfl rfl (l' := #[.val (.long q1), .second, .val (.long q2), .second, .val (.long q3), .second, .val (.int p4), .val (.int p5), .val (.int p6), .val (.int (0 : Int32)), .val (.int s0), .val (.int s1), .val (.int s2), .val (.int la), .val (.int lb), .val (.int lc), .val (.ref b374), .val (.ref b378), .val (.int (0 : Int32)), .val (.ref r_381), .unset]) rfl ?_
            refine XS.aload X381.here hx rfl (hb hby at_267) rfl rfl ?_
            exact k
          refine WP.st bk382 ?_
          clear bk382
          obtain ⟨cl383, Ar383, len383⟩ := V_r_381.len
          have bk384 : ∀ t, Steps p.tables e below (T381.setTop (mkF m 335 #[.val (.long q1), .second, .val (.long q2), .second, .val (.long q3), .second, .val (.int p4), .val (.int p5), .val (.int p6), .val (.int (0 : Int32)), .val (.int s0), .val (.int s1), .val (.int s2), .val (.int la), .val (.int lb), .val (.int lc), .val (.ref b374), .val (.ref b378), .val (.int (0 : Int32)), .val (.ref r_381), .unset] [(.int (1 : Int32))])) t → Steps p.tables e below (T381.setTop (mkF m 269 #[.val (.long q1), .second, .val (.long q2), .second, .val (.long q3), .second, .val (.int p4), .val (.int p5), .val (.int p6), .val (.int (0 : Int32)), .val (.int s0), .val (.int s1), .val (.int s2), .val (.int la), .val (.int lb), .val (.int lc), .val (.ref b374), .val (.ref b378), .val (.int (0 : Int32)), .val (.ref r_381), .unset] [(.ref r_381)])) t := fun t k => by
            refine X381.arraylength hx (by rw [e381]; exact Ar383.1) (State.isArrayOf_alike hZ.alike Ar383.2.1) (g := (mkF m 269 #[.val (.long q1), .second, .val (.long q2), .second, .val (.long q3), .second, .val (.int p4), .val (.int p5), .val (.int p6), .val (.int (0 : Int32)), .val (.int s0), .val (.int s1), .val (.int s2), .val (.int la), .val (.int lb), .val (.int lc), .val (.ref b374), .val (.ref b378), .val (.int (0 : Int32)), .val (.ref r_381), .unset] [(.ref r_381)])) rfl rfl (hb hby at_269) _ ?_
            rw [len383]
            refine XS.iload X381.here hx rfl (hb hby at_270) rfl ?_
            refine XS.icmpYes X381.here hx rfl (pc0 := 272) (pc' := 277) rfl (hb hby at_272) rfl (teq (by decide : (0 : Int32) = (0 : Int32))).1 (by decide) (by decide) ?_
            refine XS.iload X381.here hx rfl (hb hby at_277) rfl ?_
            show Steps p.tables e below (T381.setTop (mkF m 279 #[.val (.long q1), .second, .val (.long q2), .second, .val (.long q3), .second, .val (.int p4), .val (.int p5), .val (.int p6), .val (.int (0 : Int32)), .val (.int s0), .val (.int s1), .val (.int s2), .val (.int la), .val (.int lb), .val (.int lc), .val (.ref b374), .val (.ref b378), .val (.int (0 : Int32)), .val (.ref r_381), .unset] [(.int (0 : Int32))])) t
            refine XS.iconst X381.here hx rfl (hb hby at_279) ?_
            refine XS.icmpYes X381.here hx rfl (pc0 := 280) (pc' := 296) rfl (hb hby at_280) rfl (tlt (by decide : (0 : Int32) < (1 : Int32))).1 (by decide) (by decide) ?_
            refine XS.iload X381.here hx rfl (hb hby at_296) rfl ?_
            refine XS.iconst X381.here hx rfl (hb hby at_298) ?_
            show Steps p.tables e below (T381.setTop (mkF m 299 #[.val (.long q1), .second, .val (.long q2), .second, .val (.long q3), .second, .val (.int p4), .val (.int p5), .val (.int p6), .val (.int (0 : Int32)), .val (.int s0), .val (.int s1), .val (.int s2), .val (.int la), .val (.int lb), .val (.int lc), .val (.ref b374), .val (.ref b378), .val (.int (0 : Int32)), .val (.ref r_381), .unset] [(.int (2 : Int32)), (.int (0 : Int32))])) t
            refine XS.icmpYes X381.here hx rfl (pc0 := 299) (pc' := 315) rfl (hb hby at_299) rfl (tlt (by decide : (0 : Int32) < (2 : Int32))).1 (by decide) (by decide) ?_
            refine XS.iload X381.here hx rfl (hb hby at_315) rfl ?_
            refine XS.iconst X381.here hx rfl (hb hby at_317) ?_
            refine XS.icmpYes X381.here hx rfl (pc0 := 318) (pc' := 334) rfl (hb hby at_318) rfl (tlt (by decide : (0 : Int32) < (3 : Int32))).1 (by decide) (by decide) ?_
            show Steps p.tables e below (T381.setTop (mkF m 334 #[.val (.long q1), .second, .val (.long q2), .second, .val (.long q3), .second, .val (.int p4), .val (.int p5), .val (.int p6), .val (.int (0 : Int32)), .val (.int s0), .val (.int s1), .val (.int s2), .val (.int la), .val (.int lb), .val (.int lc), .val (.ref b374), .val (.ref b378), .val (.int (0 : Int32)), .val (.ref r_381), .unset] [])) t
            refine XS.iconst X381.here hx rfl (hb hby at_334) ?_
            exact k
          refine WP.st bk384 ?_
          clear bk384
          subst hG
          obtain ⟨fs, hr, hrun, hended, hW, hsame⟩ := X381.leave (v := some (.int (1 : Int32))) (fun h => by rw [Bd.returns] at h; cases h)
          refine WP.fin ⟨_, _, ?_, hrun, hended, _, _, rfl, ?_, ⟨_, rfl⟩, hW, hsame.mono (by decide) (by decide)⟩
          · exact retN X381 hx (t := .boolean) Bd.returns (by simp) (hb hby at_335) hr
          · show Q0 Z q1 q2 q3 p4 p5 p6 h0 n0 _ T381.heap _
            rw [e381]
            exact ⟨rfl, NF⟩
        · skip
          show WP p.tables e below _ T378 (mkF m 93 #[.val (.long q1), .second, .val (.long q2), .second, .val (.long q3), .second, .val (.int p4), .val (.int p5), .val (.int p6), .val (.int (1 : Int32)), .val (.int s0), .val (.int s1), .val (.int s2), .val (.int la), .val (.int lb), .val (.int lc), .val (.ref b374), .val (.ref b378), .val (.int (0 : Int32)), .unset, .unset] [])
          have bk385 : ∀ t, Steps p.tables e below (T378.setTop (mkF m 107 #[.val (.long q1), .second, .val (.long q2), .second, .val (.long q3), .second, .val (.int p4), .val (.int p5), .val (.int p6), .val (.int (1 : Int32)), .val (.int s0), .val (.int s1), .val (.int s2), .val (.int la), .val (.int lb), .val (.int lc), .val (.ref b374), .val (.ref b378), .val (.int (0 : Int32)), .unset, .unset] [(.int la), (.long (0 : Int64)), (.long q1), (.int s0), (.ref b374)])) t → Steps p.tables e below (T378.setTop (mkF m 93 #[.val (.long q1), .second, .val (.long q2), .second, .val (.long q3), .second, .val (.int p4), .val (.int p5), .val (.int p6), .val (.int (1 : Int32)), .val (.int s0), .val (.int s1), .val (.int s2), .val (.int la), .val (.int lb), .val (.int lc), .val (.ref b374), .val (.ref b378), .val (.int (0 : Int32)), .unset, .unset] [])) t := fun t k => by
            refine XS.iload X378.here hx rfl (hb hby at_93) rfl ?_
            refine XS.iconst X378.here hx rfl (hb hby at_95) ?_
            refine XS.icmpNo X378.here hx rfl (hb hby at_96) rfl (flt (by decide : ¬ ((1 : Int32) < (1 : Int32)))).1 ?_
            refine XS.aload X378.here hx rfl (hb hby at_99) rfl rfl ?_
            show Steps p.tables e below (T378.setTop (mkF m 101 #[.val (.long q1), .second, .val (.long q2), .second, .val (.long q3), .second, .val (.int p4), .val (.int p5), .val (.int p6), .val (.int (1 : Int32)), .val (.int s0), .val (.int s1), .val (.int s2), .val (.int la), .val (.int lb), .val (.int lc), .val (.ref b374), .val (.ref b378), .val (.int (0 : Int32)), .unset, .unset] [(.ref b374)])) t
            refine XS.iload X378.here hx rfl (hb hby at_101) rfl ?_
            refine XS.lloadN X378.here hx rfl (hb hby at_103) rfl ?_
            refine XS.lconst X378.here hx rfl (hb hby at_104) ?_
            refine XS.iload X378.here hx rfl (hb hby at_105) rfl ?_
            exact k
          refine WP.st bk385 ?_
          clear bk385
          obtain ⟨cq386, kq386, q386a, q386b, q386c⟩ := isOf hZ e378 E_b374
          obtain ⟨_, _, ⟨T386, L386, k386, n386⟩, -, X386, ⟨Lc386, hQ386, l386, y386, z386⟩, st386⟩ := X378.virtualBack hx (y := (⟨"com/example/otayori/otayori/bench/PairTally", "record", "(IJJZ)Z"⟩ : MethodName)) (z := (⟨"com/example/otayori/otayori/bench/PairTally", "record", "(IJJZ)Z"⟩ : MethodName)) hown (mvT hZ (hw _ (List.mem_of_getElem? (i := 19) rfl))) (mvT hZ (hw _ (List.mem_of_getElem? (i := 20) rfl))) (notFace_of_selects (args := #[]) (mvT hZ (hw _ (List.mem_of_getElem? (i := 22) rfl)))) (mvT hZ (hw _ (List.mem_of_getElem? (i := 22) rfl))) (mvT hZ (hw _ (List.mem_of_getElem? (i := 21) rfl))) (by decide) (backOf (W := 0) (rm3f0 l Z a0 hw [] b374 s0 q1 (0 : Int64) la (-1 : Int32) (8 : Int32) (0 : Int64) (0 : Int64) (0 : Int64) (0 : Int64) (0 : Int64) ts_376 ks_376 tl_376 kl_376 (0 : Int64) (.int (0 : Int32)) (.int (0 : Int32)) (.int (0 : Int32)) (.int (0 : Int32)) (.int (0 : Int32)) (.int (0 : Int32)) (.int (0 : Int32)) (.int (0 : Int32)) (.int (0 : Int32)) (.int (0 : Int32)) (.int (0 : Int32)) (.int (0 : Int32)) (.int (0 : Int32)) (.int (0 : Int32)) (.int (0 : Int32)) (.int (0 : Int32)) h378 n0 Z0 E_b374 g_b374 F_b374_highestSequence F_b374_messages F_b374_delivered F_b374_late F_b374_outOfOrder F_b374_duplicated F_b374_lastDeliveryNanos F_b374_seen F_b374_latenciesMicros V_ts_376 V_tl_376 g_ts_376 g_tl_376 ne_b374_ts_376 ne_b374_tl_376 ne_tl_376_ts_376 (hs0 : own_small s0) ((lw_eq _ _).2 (own_b0 _)) (by decide : (0 : Int64) + (0 : Int64) = (0 : Int64))) hZ (hw _ (List.mem_of_getElem? (i := 23) rfl)) (hw _ (List.mem_of_getElem? (i := 2) rfl)) (by decide) (by decide)) q386a q386c (g := (mkF m 107 #[.val (.long q1), .second, .val (.long q2), .second, .val (.long q3), .second, .val (.int p4), .val (.int p5), .val (.int p6), .val (.int (1 : Int32)), .val (.int s0), .val (.int s1), .val (.int s2), .val (.int la), .val (.int lb), .val (.int lc), .val (.ref b374), .val (.ref b378), .val (.int (0 : Int32)), .unset, .unset] [(.int la), (.long (0 : Int64)), (.long q1), (.int s0), (.ref b374)])) rfl (by rw [hml]; rfl) (Steps.refl _) (argsL := [(.int s0), (.long q1), (.long (0 : Int64)), (.int la)]) (rest := []) (lenOf pd_5 rfl) rfl (by show 2 * 0 + _ ≤ _; exact Nat.le_of_eq rfl) (hb hby at_107) (fun _ _ => ⟨rfl, e378, (by decide : 4 + 0 ≤ _), (by decide : 29 + 0 ≤ _)⟩)
          dsimp only [Pt.U, Pt.locs, Pt.cells, Pt.slots] at X386 l386 y386 z386 st386 hQ386
          subst l386 y386 z386
          obtain ⟨d1_386, l1_386, s1_386, o1_386, n1_386, rfl, Nq386, Kq386, nF386_b374_highestSequence, nF386_b374_messages, nF386_b374_delivered, nF386_b374_late, nF386_b374_outOfOrder, nF386_b374_duplicated, nF386_b374_lastDeliveryNanos, nF386_b374_seen, nF386_b374_latenciesMicros, nA386_ts_376, nA386_tl_376, hde1_386⟩ := hQ386
          replace NF := Fr.app NF Nq386
          clear Nq386
          refine WP.tr st386 ?_
          clear st386
          obtain ⟨h386, e386⟩ : ∃ h, T386.heap = h := ⟨_, rfl⟩
          rw [e386] at Kq386 nF386_b374_highestSequence nF386_b374_messages nF386_b374_delivered nF386_b374_late nF386_b374_outOfOrder nF386_b374_duplicated nF386_b374_lastDeliveryNanos nF386_b374_seen nF386_b374_latenciesMicros nA386_ts_376 nA386_tl_376
          replace E_b374 := E_b374.keep Kq386
          clear F_b374_highestSequence
          clear F_b374_latenciesMicros
          clear F_b374_messages
          clear F_b374_seen
          clear F_b374_delivered
          clear F_b374_late
          clear F_b374_outOfOrder
          clear F_b374_duplicated
          clear F_b374_lastDeliveryNanos
          clear V_tl_376
          clear V_ts_376
          replace V_b378 := V_b378.keep Kq386 (by exact ninS (Ne.symm ne_b374_b378) (ninS (Ne.symm ne_ts_376_b378) (ninS (Ne.symm ne_tl_376_b378) (nin0))))
          replace Z0 := Nat.le_trans Z0 Kq386.1
          clear Kq386
          have F_b374_highestSequence := nF386_b374_highestSequence
          clear nF386_b374_highestSequence
          have F_b374_messages := nF386_b374_messages
          clear nF386_b374_messages
          have F_b374_delivered := nF386_b374_delivered
          clear nF386_b374_delivered
          have F_b374_late := nF386_b374_late
          clear nF386_b374_late
          have F_b374_outOfOrder := nF386_b374_outOfOrder
          clear nF386_b374_outOfOrder
          have F_b374_duplicated := nF386_b374_duplicated
          clear nF386_b374_duplicated
          have F_b374_lastDeliveryNanos := nF386_b374_lastDeliveryNanos
          clear nF386_b374_lastDeliveryNanos
          have F_b374_seen := nF386_b374_seen
          clear nF386_b374_seen
          have F_b374_latenciesMicros := nF386_b374_latenciesMicros
          clear nF386_b374_latenciesMicros
          have V_ts_376 := nA386_ts_376
          clear nA386_ts_376
          have V_tl_376 := nA386_tl_376
          clear nA386_tl_376
          show WP p.tables e below _ T386 (mkF m 110 #[.val (.long q1), .second, .val (.long q2), .second, .val (.long q3), .second, .val (.int p4), .val (.int p5), .val (.int p6), .val (.int (1 : Int32)), .val (.int s0), .val (.int s1), .val (.int s2), .val (.int la), .val (.int lb), .val (.int lc), .val (.ref b374), .val (.ref b378), .val (.int (0 : Int32)), .unset, .unset] [(.int (1 : Int32))])
          have bk387 : ∀ t, Steps p.tables e below (T386.setTop (mkF m 124 #[.val (.long q1), .second, .val (.long q2), .second, .val (.long q3), .second, .val (.int p4), .val (.int p5), .val (.int p6), .val (.int (1 : Int32)), .val (.int s0), .val (.int s1), .val (.int s2), .val (.int la), .val (.int lb), .val (.int lc), .val (.ref b374), .val (.ref b378), .val (.int (0 : Int32)), .val (.int (1 : Int32)), .unset] [(.long q1), (.int (0 : Int32)), (.ref b378)])) t → Steps p.tables e below (T386.setTop (mkF m 110 #[.val (.long q1), .second, .val (.long q2), .second, .val (.long q3), .second, .val (.int p4), .val (.int p5), .val (.int p6), .val (.int (1 : Int32)), .val (.int s0), .val (.int s1), .val (.int s2), .val (.int la), .val (.int lb), .val (.int lc), .val (.ref b374), .val (.ref b378), .val (.int (0 : Int32)), .unset, .unset] [(.int (1 : Int32))])) t := fun t k => by
            refine XS.istore X386.here hx rfl (hb hby at_110) rfl (l' := #[.val (.long q1), .second, .val (.long q2), .second, .val (.long q3), .second, .val (.int p4), .val (.int p5), .val (.int p6), .val (.int (1 : Int32)), .val (.int s0), .val (.int s1), .val (.int s2), .val (.int la), .val (.int lb), .val (.int lc), .val (.ref b374), .val (.ref b378), .val (.int (0 : Int32)), .val (.int (1 : Int32)), .unset]) rfl ?_
            refine XS.iload X386.here hx rfl (hb hby at_112) rfl ?_
            refine XS.ifYes X386.here hx rfl (pc0 := 114) (pc' := 119) rfl (hb hby at_114) rfl ((if0 _ _).trans (feq (by decide : ¬ ((1 : Int32) = (0 : Int32)))).2) (by decide) (by decide) ?_
            refine XS.aload X386.here hx rfl (hb hby at_119) rfl rfl ?_
            show Steps p.tables e below (T386.setTop (mkF m 121 #[.val (.long q1), .second, .val (.long q2), .second, .val (.long q3), .second, .val (.int p4), .val (.int p5), .val (.int p6), .val (.int (1 : Int32)), .val (.int s0), .val (.int s1), .val (.int s2), .val (.int la), .val (.int lb), .val (.int lc), .val (.ref b374), .val (.ref b378), .val (.int (0 : Int32)), .val (.int (1 : Int32)), .unset] [(.ref b378)])) t
            refine XS.iload X386.here hx rfl (hb hby at_121) rfl ?_
            refine XS.lloadN X386.here hx rfl (hb hby at_123) rfl ?_
            exact k
          refine WP.st bk387 ?_
          clear bk387
          obtain ⟨_, _, ⟨T388, L388, k388, n388⟩, -, X388, ⟨Lc388, hQ388, l388, y388, z388⟩, st388⟩ := Jvm.LawKit.callS X386 hx (y := (⟨"com/example/otayori/otayori/bench/PairTallyLatenciesPinLaw", "micros", "(J)I"⟩ : MethodName)) hown (mvT hZ (hw _ (List.mem_of_getElem? (i := 37) rfl))) (mvT hZ (hw _ (List.mem_of_getElem? (i := 38) rfl))) (mvT hZ (hw _ (List.mem_of_getElem? (i := 39) rfl))) (mvT hZ (hw _ (List.mem_of_getElem? (i := 40) rfl))) (by decide) (backOf (W := 2) (rm6 l Z a0 hw [] q1 h386 n0 Z0 ) hZ (hw _ (List.mem_of_getElem? (i := 40) rfl)) (hw _ (List.mem_of_getElem? (i := 39) rfl)) (by decide) (by decide)) (g := (mkF m 124 #[.val (.long q1), .second, .val (.long q2), .second, .val (.long q3), .second, .val (.int p4), .val (.int p5), .val (.int p6), .val (.int (1 : Int32)), .val (.int s0), .val (.int s1), .val (.int s2), .val (.int la), .val (.int lb), .val (.int lc), .val (.ref b374), .val (.ref b378), .val (.int (0 : Int32)), .val (.int (1 : Int32)), .unset] [(.long q1), (.int (0 : Int32)), (.ref b378)])) rfl (by rw [hml]; rfl) (argsL := [(.long q1)]) (rest := [(.int (0 : Int32)), (.ref b378)]) (lenOf pd_6 rfl) rfl (by show 2 * 0 + _ ≤ _; exact Nat.le_of_eq rfl) (hb hby at_124) (fun _ _ => ⟨rfl, e386, (by decide : 4 + 0 ≤ _), (by decide : 29 + 0 ≤ _)⟩)
          dsimp only [Pt.U, Pt.locs, Pt.cells, Pt.slots] at X388 l388 y388 z388 st388 hQ388
          subst l388 y388 z388
          obtain ⟨rfl, Nq388, Kq388⟩ := hQ388
          replace NF := Fr.app NF Nq388
          clear Nq388
          refine WP.st st388 ?_
          clear st388
          replace Kq388 := Kq388.trans (rfl : h386 = h386)
          show WP p.tables e below _ T388 (mkF m 127 #[.val (.long q1), .second, .val (.long q2), .second, .val (.long q3), .second, .val (.int p4), .val (.int p5), .val (.int p6), .val (.int (1 : Int32)), .val (.int s0), .val (.int s1), .val (.int s2), .val (.int la), .val (.int lb), .val (.int lc), .val (.ref b374), .val (.ref b378), .val (.int (0 : Int32)), .val (.int (1 : Int32)), .unset] [(.int (own_mic q1)), (.int (0 : Int32)), (.ref b378)])
          obtain ⟨cl389, Ar389, q389, S389, N389, H389, G389⟩ := V_b378
          have hin389 : ¬ ((0 : Int32) < 0 ∨ cl389.slots.size ≤ ((0 : Int32)).toNatClampNeg) := inb_of S389 ⟨by decide, by decide⟩
          obtain ⟨T390, h390, X390, e390, W390, st390⟩ := stI X388 hx hZ Kq388 Ar389 (j := (0 : Int32)) hin389 (g := (mkF m 127 #[.val (.long q1), .second, .val (.long q2), .second, .val (.long q3), .second, .val (.int p4), .val (.int p5), .val (.int p6), .val (.int (1 : Int32)), .val (.int s0), .val (.int s1), .val (.int s2), .val (.int la), .val (.int lb), .val (.int lc), .val (.ref b374), .val (.ref b378), .val (.int (0 : Int32)), .val (.int (1 : Int32)), .unset] [(.int (own_mic q1)), (.int (0 : Int32)), (.ref b378)])) rfl rfl (hb hby at_127)
          refine WP.st st390 ?_
          clear st390
          have Vn : Arv Z h390 b378 k378 .int (3 : Int32) [(.int (own_mic q1)), (.int (0 : Int32)), (.int (0 : Int32))] (.int (0 : Int32)) := Arv.set Ar389 q389 S389 N389 H389 G389 rfl W390 0 rfl (Nat.le_of_ble_eq_true rfl)
          replace E_b374 := E_b374.wr W390
          replace F_b374_highestSequence := F_b374_highestSequence.other W390 (Or.inl ne_b374_b378)
          replace F_b374_messages := F_b374_messages.other W390 (Or.inl ne_b374_b378)
          replace F_b374_delivered := F_b374_delivered.other W390 (Or.inl ne_b374_b378)
          replace F_b374_late := F_b374_late.other W390 (Or.inl ne_b374_b378)
          replace F_b374_outOfOrder := F_b374_outOfOrder.other W390 (Or.inl ne_b374_b378)
          replace F_b374_duplicated := F_b374_duplicated.other W390 (Or.inl ne_b374_b378)
          replace F_b374_lastDeliveryNanos := F_b374_lastDeliveryNanos.other W390 (Or.inl ne_b374_b378)
          replace F_b374_seen := F_b374_seen.other W390 (Or.inl ne_b374_b378)
          replace F_b374_latenciesMicros := F_b374_latenciesMicros.other W390 (Or.inl ne_b374_b378)
          replace V_ts_376 := V_ts_376.other W390 ne_ts_376_b378
          replace V_tl_376 := V_tl_376.other W390 ne_tl_376_b378
          replace Z0 := Nat.le_trans Z0 (Keep.of_wr W390).1
          replace V_b378 := Vn
          replace NF := Fr.snoc X390 NF g_b378
          clear W390 hin389 q389 S389 N389 H389 G389 Ar389
          show WP p.tables e below _ T390 (mkF m 128 #[.val (.long q1), .second, .val (.long q2), .second, .val (.long q3), .second, .val (.int p4), .val (.int p5), .val (.int p6), .val (.int (1 : Int32)), .val (.int s0), .val (.int s1), .val (.int s2), .val (.int la), .val (.int lb), .val (.int lc), .val (.ref b374), .val (.ref b378), .val (.int (0 : Int32)), .val (.int (1 : Int32)), .unset] [])
          have bk391 : ∀ t, Steps p.tables e below (T390.setTop (mkF m 131 #[.val (.long q1), .second, .val (.long q2), .second, .val (.long q3), .second, .val (.int p4), .val (.int p5), .val (.int p6), .val (.int (1 : Int32)), .val (.int s0), .val (.int s1), .val (.int s2), .val (.int la), .val (.int lb), .val (.int lc), .val (.ref b374), .val (.ref b378), .val (.int ((0 : Int32) + (1 : Int32))), .val (.int (1 : Int32)), .unset] [])) t → Steps p.tables e below (T390.setTop (mkF m 128 #[.val (.long q1), .second, .val (.long q2), .second, .val (.long q3), .second, .val (.int p4), .val (.int p5), .val (.int p6), .val (.int (1 : Int32)), .val (.int s0), .val (.int s1), .val (.int s2), .val (.int la), .val (.int lb), .val (.int lc), .val (.ref b374), .val (.ref b378), .val (.int (0 : Int32)), .val (.int (1 : Int32)), .unset] [])) t := fun t k => by
            refine XS.iinc X390.here hx rfl (hb hby at_128) rfl (l' := #[.val (.long q1), .second, .val (.long q2), .second, .val (.long q3), .second, .val (.int p4), .val (.int p5), .val (.int p6), .val (.int (1 : Int32)), .val (.int s0), .val (.int s1), .val (.int s2), .val (.int la), .val (.int lb), .val (.int lc), .val (.ref b374), .val (.ref b378), .val (.int ((0 : Int32) + (1 : Int32))), .val (.int (1 : Int32)), .unset]) rfl ?_
            exact k
          refine WP.st bk391 ?_
          clear bk391
          rw [show ((0 : Int32) + (1 : Int32)) = (1 : Int32) from by decide]
          show WP p.tables e below _ T390 (mkF m 131 #[.val (.long q1), .second, .val (.long q2), .second, .val (.long q3), .second, .val (.int p4), .val (.int p5), .val (.int p6), .val (.int (1 : Int32)), .val (.int s0), .val (.int s1), .val (.int s2), .val (.int la), .val (.int lb), .val (.int lc), .val (.ref b374), .val (.ref b378), .val (.int (1 : Int32)), .val (.int (1 : Int32)), .unset] [])
          have bk392 : ∀ t, Steps p.tables e below (T390.setTop (mkF m 262 #[.val (.long q1), .second, .val (.long q2), .second, .val (.long q3), .second, .val (.int p4), .val (.int p5), .val (.int p6), .val (.int (1 : Int32)), .val (.int s0), .val (.int s1), .val (.int s2), .val (.int la), .val (.int lb), .val (.int lc), .val (.ref b374), .val (.ref b378), .val (.int (1 : Int32)), .val (.int (1 : Int32)), .unset] [(.ref b374)])) t → Steps p.tables e below (T390.setTop (mkF m 131 #[.val (.long q1), .second, .val (.long q2), .second, .val (.long q3), .second, .val (.int p4), .val (.int p5), .val (.int p6), .val (.int (1 : Int32)), .val (.int s0), .val (.int s1), .val (.int s2), .val (.int la), .val (.int lb), .val (.int lc), .val (.ref b374), .val (.ref b378), .val (.int (1 : Int32)), .val (.int (1 : Int32)), .unset] [])) t := fun t k => by
            refine XS.iload X390.here hx rfl (hb hby at_131) rfl ?_
            refine XS.iconst X390.here hx rfl (hb hby at_133) ?_
            refine XS.icmpYes X390.here hx rfl (pc0 := 134) (pc' := 190) rfl (hb hby at_134) rfl (tlt (by decide : (1 : Int32) < (2 : Int32))).1 (by decide) (by decide) ?_
            refine XS.iload X390.here hx rfl (hb hby at_190) rfl ?_
            show Steps p.tables e below (T390.setTop (mkF m 192 #[.val (.long q1), .second, .val (.long q2), .second, .val (.long q3), .second, .val (.int p4), .val (.int p5), .val (.int p6), .val (.int (1 : Int32)), .val (.int s0), .val (.int s1), .val (.int s2), .val (.int la), .val (.int lb), .val (.int lc), .val (.ref b374), .val (.ref b378), .val (.int (1 : Int32)), .val (.int (1 : Int32)), .unset] [(.int (1 : Int32))])) t
            refine XS.iconst X390.here hx rfl (hb hby at_192) ?_
            refine XS.icmpYes X390.here hx rfl (pc0 := 193) (pc' := 260) rfl (hb hby at_193) rfl (tlt (by decide : (1 : Int32) < (3 : Int32))).1 (by decide) (by decide) ?_
            refine XS.aload X390.here hx rfl (hb hby at_260) rfl rfl ?_
            exact k
          refine WP.st bk392 ?_
          clear bk392
          obtain ⟨cq393, kq393, q393a, q393b, q393c⟩ := isOf hZ e390 E_b374
          obtain ⟨_, _, ⟨T393, L393, k393, n393⟩, -, X393, ⟨Lc393, hQ393, l393, y393, z393⟩, st393⟩ := X390.virtualBack hx (y := (⟨"com/example/otayori/otayori/bench/PairTally", "latencies", "()[I"⟩ : MethodName)) (z := (⟨"com/example/otayori/otayori/bench/PairTally", "latencies", "()[I"⟩ : MethodName)) hown (mvT hZ (hw _ (List.mem_of_getElem? (i := 48) rfl))) (mvT hZ (hw _ (List.mem_of_getElem? (i := 49) rfl))) (notFace_of_selects (args := #[]) (mvT hZ (hw _ (List.mem_of_getElem? (i := 51) rfl)))) (mvT hZ (hw _ (List.mem_of_getElem? (i := 51) rfl))) (mvT hZ (hw _ (List.mem_of_getElem? (i := 50) rfl))) (by decide) (backOf (W := 0) (rm7k1 l Z a0 hw [] b374 tl_376 kl_376 d1_386 l1_386 (.int (own_lat q1)) (.int (0 : Int32)) (.int (0 : Int32)) (.int (0 : Int32)) (.int (0 : Int32)) (.int (0 : Int32)) (.int (0 : Int32)) (.int (0 : Int32)) (.int (0 : Int32)) (.int (0 : Int32)) (.int (0 : Int32)) (.int (0 : Int32)) (.int (0 : Int32)) (.int (0 : Int32)) (.int (0 : Int32)) (.int (0 : Int32)) h390 n0 Z0 F_b374_latenciesMicros F_b374_delivered F_b374_late V_tl_376 (hde1_386 : d1_386 + l1_386 = (1 : Int64))) hZ (hw _ (List.mem_of_getElem? (i := 52) rfl)) (hw _ (List.mem_of_getElem? (i := 2) rfl)) (by decide) (by decide)) q393a q393c (g := (mkF m 262 #[.val (.long q1), .second, .val (.long q2), .second, .val (.long q3), .second, .val (.int p4), .val (.int p5), .val (.int p6), .val (.int (1 : Int32)), .val (.int s0), .val (.int s1), .val (.int s2), .val (.int la), .val (.int lb), .val (.int lc), .val (.ref b374), .val (.ref b378), .val (.int (1 : Int32)), .val (.int (1 : Int32)), .unset] [(.ref b374)])) rfl (by rw [hml]; rfl) (Steps.refl _) (argsL := []) (rest := []) (lenOf pd_4 rfl) rfl (by show 2 * 0 + _ ≤ _; exact Nat.le_of_eq rfl) (hb hby at_262) (fun _ _ => ⟨rfl, e390, (by decide : 4 + 1 ≤ _), (by decide : 29 + 1 ≤ _)⟩)
          dsimp only [Pt.U, Pt.locs, Pt.cells, Pt.slots] at X393 l393 y393 z393 st393 hQ393
          subst l393 y393 z393
          obtain ⟨r_393, kr_393, rfl, Nq393, Kq393, szq_r_393, nA393_r_393⟩ := hQ393
          replace NF := Fr.app NF Nq393
          clear Nq393
          refine WP.tr st393 ?_
          clear st393
          obtain ⟨h393, e393⟩ : ∃ h, T393.heap = h := ⟨_, rfl⟩
          rw [e393] at Kq393 nA393_r_393
          have ne_b374_r_393 : b374 ≠ r_393 := Nat.ne_of_lt (Nat.lt_of_lt_of_le E_b374.lt szq_r_393)
          have ne_ts_376_r_393 : ts_376 ≠ r_393 := Nat.ne_of_lt (Nat.lt_of_lt_of_le V_ts_376.lt szq_r_393)
          have ne_tl_376_r_393 : tl_376 ≠ r_393 := Nat.ne_of_lt (Nat.lt_of_lt_of_le V_tl_376.lt szq_r_393)
          have ne_b378_r_393 : b378 ≠ r_393 := Nat.ne_of_lt (Nat.lt_of_lt_of_le V_b378.lt szq_r_393)
          replace E_b374 := E_b374.keep Kq393
          replace F_b374_highestSequence := F_b374_highestSequence.keep Kq393 (by exact nin0)
          replace F_b374_messages := F_b374_messages.keep Kq393 (by exact nin0)
          replace F_b374_delivered := F_b374_delivered.keep Kq393 (by exact nin0)
          replace F_b374_late := F_b374_late.keep Kq393 (by exact nin0)
          replace F_b374_outOfOrder := F_b374_outOfOrder.keep Kq393 (by exact nin0)
          replace F_b374_duplicated := F_b374_duplicated.keep Kq393 (by exact nin0)
          replace F_b374_lastDeliveryNanos := F_b374_lastDeliveryNanos.keep Kq393 (by exact nin0)
          replace F_b374_seen := F_b374_seen.keep Kq393 (by exact nin0)
          replace F_b374_latenciesMicros := F_b374_latenciesMicros.keep Kq393 (by exact nin0)
          replace V_ts_376 := V_ts_376.keep Kq393 (by exact nin0)
          replace V_tl_376 := V_tl_376.keep Kq393 (by exact nin0)
          replace V_b378 := V_b378.keep Kq393 (by exact nin0)
          replace Z0 := Nat.le_trans Z0 Kq393.1
          clear Kq393
          have V_r_393 := nA393_r_393
          clear nA393_r_393
          show WP p.tables e below _ T393 (mkF m 265 #[.val (.long q1), .second, .val (.long q2), .second, .val (.long q3), .second, .val (.int p4), .val (.int p5), .val (.int p6), .val (.int (1 : Int32)), .val (.int s0), .val (.int s1), .val (.int s2), .val (.int la), .val (.int lb), .val (.int lc), .val (.ref b374), .val (.ref b378), .val (.int (1 : Int32)), .val (.int (1 : Int32)), .unset] [(.ref r_393)])
          have bk394 : ∀ t, Steps p.tables e below (T393.setTop (mkF m 269 #[.val (.long q1), .second, .val (.long q2), .second, .val (.long q3), .second, .val (.int p4), .val (.int p5), .val (.int p6), .val (.int (1 : Int32)), .val (.int s0), .val (.int s1), .val (.int s2), .val (.int la), .val (.int lb), .val (.int lc), .val (.ref b374), .val (.ref b378), .val (.int (1 : Int32)), .val (.ref r_393), .unset] [(.ref r_393)])) t → Steps p.tables e below (T393.setTop (mkF m 265 #[.val (.long q1), .second, .val (.long q2), .second, .val (.long q3), .second, .val (.int p4), .val (.int p5), .val (.int p6), .val (.int (1 : Int32)), .val (.int s0), .val (.int s1), .val (.int s2), .val (.int la), .val (.int lb), .val (.int lc), .val (.ref b374), .val (.ref b378), .val (.int (1 : Int32)), .val (.int (1 : Int32)), .unset] [(.ref r_393)])) t := fun t k => by
            refine XS.astore X393.here hx rfl (hb hby at_265) rfl rfl (l' := #[.val (.long q1), .second, .val (.long q2), .second, .val (.long q3), .second, .val (.int p4), .val (.int p5), .val (.int p6), .val (.int (1 : Int32)), .val (.int s0), .val (.int s1), .val (.int s2), .val (.int la), .val (.int lb), .val (.int lc), .val (.ref b374), .val (.ref b378), .val (.int (1 : Int32)), .val (.ref r_393), .unset]) rfl ?_
            refine XS.aload X393.here hx rfl (hb hby at_267) rfl rfl ?_
            exact k
          refine WP.st bk394 ?_
          clear bk394
          obtain ⟨cl395, Ar395, len395⟩ := V_r_393.len
          have bk396 : ∀ t, Steps p.tables e below (T393.setTop (mkF m 286 #[.val (.long q1), .second, .val (.long q2), .second, .val (.long q3), .second, .val (.int p4), .val (.int p5), .val (.int p6), .val (.int (1 : Int32)), .val (.int s0), .val (.int s1), .val (.int s2), .val (.int la), .val (.int lb), .val (.int lc), .val (.ref b374), .val (.ref b378), .val (.int (1 : Int32)), .val (.ref r_393), .unset] [(.int (0 : Int32)), (.ref r_393)])) t → Steps p.tables e below (T393.setTop (mkF m 269 #[.val (.long q1), .second, .val (.long q2), .second, .val (.long q3), .second, .val (.int p4), .val (.int p5), .val (.int p6), .val (.int (1 : Int32)), .val (.int s0), .val (.int s1), .val (.int s2), .val (.int la), .val (.int lb), .val (.int lc), .val (.ref b374), .val (.ref b378), .val (.int (1 : Int32)), .val (.ref r_393), .unset] [(.ref r_393)])) t := fun t k => by
            refine X393.arraylength hx (by rw [e393]; exact Ar395.1) (State.isArrayOf_alike hZ.alike Ar395.2.1) (g := (mkF m 269 #[.val (.long q1), .second, .val (.long q2), .second, .val (.long q3), .second, .val (.int p4), .val (.int p5), .val (.int p6), .val (.int (1 : Int32)), .val (.int s0), .val (.int s1), .val (.int s2), .val (.int la), .val (.int lb), .val (.int lc), .val (.ref b374), .val (.ref b378), .val (.int (1 : Int32)), .val (.ref r_393), .unset] [(.ref r_393)])) rfl rfl (hb hby at_269) _ ?_
            rw [len395]
            refine XS.iload X393.here hx rfl (hb hby at_270) rfl ?_
            refine XS.icmpYes X393.here hx rfl (pc0 := 272) (pc' := 277) rfl (hb hby at_272) rfl (teq (by decide : (1 : Int32) = (1 : Int32))).1 (by decide) (by decide) ?_
            refine XS.iload X393.here hx rfl (hb hby at_277) rfl ?_
            show Steps p.tables e below (T393.setTop (mkF m 279 #[.val (.long q1), .second, .val (.long q2), .second, .val (.long q3), .second, .val (.int p4), .val (.int p5), .val (.int p6), .val (.int (1 : Int32)), .val (.int s0), .val (.int s1), .val (.int s2), .val (.int la), .val (.int lb), .val (.int lc), .val (.ref b374), .val (.ref b378), .val (.int (1 : Int32)), .val (.ref r_393), .unset] [(.int (1 : Int32))])) t
            refine XS.iconst X393.here hx rfl (hb hby at_279) ?_
            refine XS.icmpNo X393.here hx rfl (hb hby at_280) rfl (flt (by decide : ¬ ((1 : Int32) < (1 : Int32)))).1 ?_
            refine XS.aload X393.here hx rfl (hb hby at_283) rfl rfl ?_
            refine XS.iconst X393.here hx rfl (hb hby at_285) ?_
            exact k
          refine WP.st bk396 ?_
          clear bk396
          obtain ⟨cl397, Ar397, hin397, hat397, -⟩ := V_r_393.rd (j := (0 : Int32)) ⟨by decide, by decide⟩
          replace hat397 : cl397.slots[((0 : Int32)).toNatClampNeg]? = some (.int (own_lat q1)) := hat397
          have bk398 : ∀ t, Steps p.tables e below (T393.setTop (mkF m 290 #[.val (.long q1), .second, .val (.long q2), .second, .val (.long q3), .second, .val (.int p4), .val (.int p5), .val (.int p6), .val (.int (1 : Int32)), .val (.int s0), .val (.int s1), .val (.int s2), .val (.int la), .val (.int lb), .val (.int lc), .val (.ref b374), .val (.ref b378), .val (.int (1 : Int32)), .val (.ref r_393), .unset] [(.int (0 : Int32)), (.ref b378), (.int (own_lat q1))])) t → Steps p.tables e below (T393.setTop (mkF m 286 #[.val (.long q1), .second, .val (.long q2), .second, .val (.long q3), .second, .val (.int p4), .val (.int p5), .val (.int p6), .val (.int (1 : Int32)), .val (.int s0), .val (.int s1), .val (.int s2), .val (.int la), .val (.int lb), .val (.int lc), .val (.ref b374), .val (.ref b378), .val (.int (1 : Int32)), .val (.ref r_393), .unset] [(.int (0 : Int32)), (.ref r_393)])) t := fun t k => by
            refine X393.iaload hx (j := (0 : Int32)) (v := (.int (own_lat q1))) (by rw [e393]; exact Ar397.1) (State.isArrayOf_alike hZ.alike Ar397.2.1) Ar397.2.2 hin397 hat397 (g := (mkF m 286 #[.val (.long q1), .second, .val (.long q2), .second, .val (.long q3), .second, .val (.int p4), .val (.int p5), .val (.int p6), .val (.int (1 : Int32)), .val (.int s0), .val (.int s1), .val (.int s2), .val (.int la), .val (.int lb), .val (.int lc), .val (.ref b374), .val (.ref b378), .val (.int (1 : Int32)), .val (.ref r_393), .unset] [(.int (0 : Int32)), (.ref r_393)])) rfl rfl (hb hby at_286) _ ?_
            refine XS.aload X393.here hx rfl (hb hby at_287) rfl rfl ?_
            refine XS.iconst X393.here hx rfl (hb hby at_289) ?_
            exact k
          refine WP.st bk398 ?_
          clear bk398
          obtain ⟨cl399, Ar399, hin399, hat399, -⟩ := V_b378.rd (j := (0 : Int32)) ⟨by decide, by decide⟩
          replace hat399 : cl399.slots[((0 : Int32)).toNatClampNeg]? = some (.int (own_mic q1)) := hat399
          have bk400 : ∀ t, Steps p.tables e below (T393.setTop (mkF m 335 #[.val (.long q1), .second, .val (.long q2), .second, .val (.long q3), .second, .val (.int p4), .val (.int p5), .val (.int p6), .val (.int (1 : Int32)), .val (.int s0), .val (.int s1), .val (.int s2), .val (.int la), .val (.int lb), .val (.int lc), .val (.ref b374), .val (.ref b378), .val (.int (1 : Int32)), .val (.ref r_393), .unset] [(.int (1 : Int32))])) t → Steps p.tables e below (T393.setTop (mkF m 290 #[.val (.long q1), .second, .val (.long q2), .second, .val (.long q3), .second, .val (.int p4), .val (.int p5), .val (.int p6), .val (.int (1 : Int32)), .val (.int s0), .val (.int s1), .val (.int s2), .val (.int la), .val (.int lb), .val (.int lc), .val (.ref b374), .val (.ref b378), .val (.int (1 : Int32)), .val (.ref r_393), .unset] [(.int (0 : Int32)), (.ref b378), (.int (own_lat q1))])) t := fun t k => by
            refine X393.iaload hx (j := (0 : Int32)) (v := (.int (own_mic q1))) (by rw [e393]; exact Ar399.1) (State.isArrayOf_alike hZ.alike Ar399.2.1) Ar399.2.2 hin399 hat399 (g := (mkF m 290 #[.val (.long q1), .second, .val (.long q2), .second, .val (.long q3), .second, .val (.int p4), .val (.int p5), .val (.int p6), .val (.int (1 : Int32)), .val (.int s0), .val (.int s1), .val (.int s2), .val (.int la), .val (.int lb), .val (.int lc), .val (.ref b374), .val (.ref b378), .val (.int (1 : Int32)), .val (.ref r_393), .unset] [(.int (0 : Int32)), (.ref b378), (.int (own_lat q1))])) rfl rfl (hb hby at_290) _ ?_
            refine XS.icmpYes X393.here hx rfl (pc0 := 291) (pc' := 296) rfl (hb hby at_291) rfl (teq (own_lm q1)).1 (by decide) (by decide) ?_
            refine XS.iload X393.here hx rfl (hb hby at_296) rfl ?_
            refine XS.iconst X393.here hx rfl (hb hby at_298) ?_
            show Steps p.tables e below (T393.setTop (mkF m 299 #[.val (.long q1), .second, .val (.long q2), .second, .val (.long q3), .second, .val (.int p4), .val (.int p5), .val (.int p6), .val (.int (1 : Int32)), .val (.int s0), .val (.int s1), .val (.int s2), .val (.int la), .val (.int lb), .val (.int lc), .val (.ref b374), .val (.ref b378), .val (.int (1 : Int32)), .val (.ref r_393), .unset] [(.int (2 : Int32)), (.int (1 : Int32))])) t
            refine XS.icmpYes X393.here hx rfl (pc0 := 299) (pc' := 315) rfl (hb hby at_299) rfl (tlt (by decide : (1 : Int32) < (2 : Int32))).1 (by decide) (by decide) ?_
            refine XS.iload X393.here hx rfl (hb hby at_315) rfl ?_
            refine XS.iconst X393.here hx rfl (hb hby at_317) ?_
            refine XS.icmpYes X393.here hx rfl (pc0 := 318) (pc' := 334) rfl (hb hby at_318) rfl (tlt (by decide : (1 : Int32) < (3 : Int32))).1 (by decide) (by decide) ?_
            show Steps p.tables e below (T393.setTop (mkF m 334 #[.val (.long q1), .second, .val (.long q2), .second, .val (.long q3), .second, .val (.int p4), .val (.int p5), .val (.int p6), .val (.int (1 : Int32)), .val (.int s0), .val (.int s1), .val (.int s2), .val (.int la), .val (.int lb), .val (.int lc), .val (.ref b374), .val (.ref b378), .val (.int (1 : Int32)), .val (.ref r_393), .unset] [])) t
            refine XS.iconst X393.here hx rfl (hb hby at_334) ?_
            exact k
          refine WP.st bk400 ?_
          clear bk400
          subst hG
          obtain ⟨fs, hr, hrun, hended, hW, hsame⟩ := X393.leave (v := some (.int (1 : Int32))) (fun h => by rw [Bd.returns] at h; cases h)
          refine WP.fin ⟨_, _, ?_, hrun, hended, _, _, rfl, ?_, ⟨_, rfl⟩, hW, hsame.mono (by decide) (by decide)⟩
          · exact retN X393 hx (t := .boolean) Bd.returns (by simp) (hb hby at_335) hr
          · show Q0 Z q1 q2 q3 p4 p5 p6 h0 n0 _ T393.heap _
            rw [e393]
            exact ⟨rfl, NF⟩
        · skip
          show WP p.tables e below _ T378 (mkF m 93 #[.val (.long q1), .second, .val (.long q2), .second, .val (.long q3), .second, .val (.int p4), .val (.int p5), .val (.int p6), .val (.int (2 : Int32)), .val (.int s0), .val (.int s1), .val (.int s2), .val (.int la), .val (.int lb), .val (.int lc), .val (.ref b374), .val (.ref b378), .val (.int (0 : Int32)), .unset, .unset] [])
          have bk401 : ∀ t, Steps p.tables e below (T378.setTop (mkF m 107 #[.val (.long q1), .second, .val (.long q2), .second, .val (.long q3), .second, .val (.int p4), .val (.int p5), .val (.int p6), .val (.int (2 : Int32)), .val (.int s0), .val (.int s1), .val (.int s2), .val (.int la), .val (.int lb), .val (.int lc), .val (.ref b374), .val (.ref b378), .val (.int (0 : Int32)), .unset, .unset] [(.int la), (.long (0 : Int64)), (.long q1), (.int s0), (.ref b374)])) t → Steps p.tables e below (T378.setTop (mkF m 93 #[.val (.long q1), .second, .val (.long q2), .second, .val (.long q3), .second, .val (.int p4), .val (.int p5), .val (.int p6), .val (.int (2 : Int32)), .val (.int s0), .val (.int s1), .val (.int s2), .val (.int la), .val (.int lb), .val (.int lc), .val (.ref b374), .val (.ref b378), .val (.int (0 : Int32)), .unset, .unset] [])) t := fun t k => by
            refine XS.iload X378.here hx rfl (hb hby at_93) rfl ?_
            refine XS.iconst X378.here hx rfl (hb hby at_95) ?_
            refine XS.icmpNo X378.here hx rfl (hb hby at_96) rfl (flt (by decide : ¬ ((2 : Int32) < (1 : Int32)))).1 ?_
            refine XS.aload X378.here hx rfl (hb hby at_99) rfl rfl ?_
            show Steps p.tables e below (T378.setTop (mkF m 101 #[.val (.long q1), .second, .val (.long q2), .second, .val (.long q3), .second, .val (.int p4), .val (.int p5), .val (.int p6), .val (.int (2 : Int32)), .val (.int s0), .val (.int s1), .val (.int s2), .val (.int la), .val (.int lb), .val (.int lc), .val (.ref b374), .val (.ref b378), .val (.int (0 : Int32)), .unset, .unset] [(.ref b374)])) t
            refine XS.iload X378.here hx rfl (hb hby at_101) rfl ?_
            refine XS.lloadN X378.here hx rfl (hb hby at_103) rfl ?_
            refine XS.lconst X378.here hx rfl (hb hby at_104) ?_
            refine XS.iload X378.here hx rfl (hb hby at_105) rfl ?_
            exact k
          refine WP.st bk401 ?_
          clear bk401
          obtain ⟨cq402, kq402, q402a, q402b, q402c⟩ := isOf hZ e378 E_b374
          obtain ⟨_, _, ⟨T402, L402, k402, n402⟩, -, X402, ⟨Lc402, hQ402, l402, y402, z402⟩, st402⟩ := X378.virtualBack hx (y := (⟨"com/example/otayori/otayori/bench/PairTally", "record", "(IJJZ)Z"⟩ : MethodName)) (z := (⟨"com/example/otayori/otayori/bench/PairTally", "record", "(IJJZ)Z"⟩ : MethodName)) hown (mvT hZ (hw _ (List.mem_of_getElem? (i := 19) rfl))) (mvT hZ (hw _ (List.mem_of_getElem? (i := 20) rfl))) (notFace_of_selects (args := #[]) (mvT hZ (hw _ (List.mem_of_getElem? (i := 22) rfl)))) (mvT hZ (hw _ (List.mem_of_getElem? (i := 22) rfl))) (mvT hZ (hw _ (List.mem_of_getElem? (i := 21) rfl))) (by decide) (backOf (W := 0) (rm3f0 l Z a0 hw [] b374 s0 q1 (0 : Int64) la (-1 : Int32) (8 : Int32) (0 : Int64) (0 : Int64) (0 : Int64) (0 : Int64) (0 : Int64) ts_376 ks_376 tl_376 kl_376 (0 : Int64) (.int (0 : Int32)) (.int (0 : Int32)) (.int (0 : Int32)) (.int (0 : Int32)) (.int (0 : Int32)) (.int (0 : Int32)) (.int (0 : Int32)) (.int (0 : Int32)) (.int (0 : Int32)) (.int (0 : Int32)) (.int (0 : Int32)) (.int (0 : Int32)) (.int (0 : Int32)) (.int (0 : Int32)) (.int (0 : Int32)) (.int (0 : Int32)) h378 n0 Z0 E_b374 g_b374 F_b374_highestSequence F_b374_messages F_b374_delivered F_b374_late F_b374_outOfOrder F_b374_duplicated F_b374_lastDeliveryNanos F_b374_seen F_b374_latenciesMicros V_ts_376 V_tl_376 g_ts_376 g_tl_376 ne_b374_ts_376 ne_b374_tl_376 ne_tl_376_ts_376 (hs0 : own_small s0) ((lw_eq _ _).2 (own_b0 _)) (by decide : (0 : Int64) + (0 : Int64) = (0 : Int64))) hZ (hw _ (List.mem_of_getElem? (i := 23) rfl)) (hw _ (List.mem_of_getElem? (i := 2) rfl)) (by decide) (by decide)) q402a q402c (g := (mkF m 107 #[.val (.long q1), .second, .val (.long q2), .second, .val (.long q3), .second, .val (.int p4), .val (.int p5), .val (.int p6), .val (.int (2 : Int32)), .val (.int s0), .val (.int s1), .val (.int s2), .val (.int la), .val (.int lb), .val (.int lc), .val (.ref b374), .val (.ref b378), .val (.int (0 : Int32)), .unset, .unset] [(.int la), (.long (0 : Int64)), (.long q1), (.int s0), (.ref b374)])) rfl (by rw [hml]; rfl) (Steps.refl _) (argsL := [(.int s0), (.long q1), (.long (0 : Int64)), (.int la)]) (rest := []) (lenOf pd_5 rfl) rfl (by show 2 * 0 + _ ≤ _; exact Nat.le_of_eq rfl) (hb hby at_107) (fun _ _ => ⟨rfl, e378, (by decide : 4 + 0 ≤ _), (by decide : 29 + 0 ≤ _)⟩)
          dsimp only [Pt.U, Pt.locs, Pt.cells, Pt.slots] at X402 l402 y402 z402 st402 hQ402
          subst l402 y402 z402
          obtain ⟨d1_402, l1_402, s1_402, o1_402, n1_402, rfl, Nq402, Kq402, nF402_b374_highestSequence, nF402_b374_messages, nF402_b374_delivered, nF402_b374_late, nF402_b374_outOfOrder, nF402_b374_duplicated, nF402_b374_lastDeliveryNanos, nF402_b374_seen, nF402_b374_latenciesMicros, nA402_ts_376, nA402_tl_376, hde1_402⟩ := hQ402
          replace NF := Fr.app NF Nq402
          clear Nq402
          refine WP.tr st402 ?_
          clear st402
          obtain ⟨h402, e402⟩ : ∃ h, T402.heap = h := ⟨_, rfl⟩
          rw [e402] at Kq402 nF402_b374_highestSequence nF402_b374_messages nF402_b374_delivered nF402_b374_late nF402_b374_outOfOrder nF402_b374_duplicated nF402_b374_lastDeliveryNanos nF402_b374_seen nF402_b374_latenciesMicros nA402_ts_376 nA402_tl_376
          replace E_b374 := E_b374.keep Kq402
          clear F_b374_highestSequence
          clear F_b374_latenciesMicros
          clear F_b374_messages
          clear F_b374_seen
          clear F_b374_delivered
          clear F_b374_late
          clear F_b374_outOfOrder
          clear F_b374_duplicated
          clear F_b374_lastDeliveryNanos
          clear V_tl_376
          clear V_ts_376
          replace V_b378 := V_b378.keep Kq402 (by exact ninS (Ne.symm ne_b374_b378) (ninS (Ne.symm ne_ts_376_b378) (ninS (Ne.symm ne_tl_376_b378) (nin0))))
          replace Z0 := Nat.le_trans Z0 Kq402.1
          clear Kq402
          have F_b374_highestSequence := nF402_b374_highestSequence
          clear nF402_b374_highestSequence
          have F_b374_messages := nF402_b374_messages
          clear nF402_b374_messages
          have F_b374_delivered := nF402_b374_delivered
          clear nF402_b374_delivered
          have F_b374_late := nF402_b374_late
          clear nF402_b374_late
          have F_b374_outOfOrder := nF402_b374_outOfOrder
          clear nF402_b374_outOfOrder
          have F_b374_duplicated := nF402_b374_duplicated
          clear nF402_b374_duplicated
          have F_b374_lastDeliveryNanos := nF402_b374_lastDeliveryNanos
          clear nF402_b374_lastDeliveryNanos
          have F_b374_seen := nF402_b374_seen
          clear nF402_b374_seen
          have F_b374_latenciesMicros := nF402_b374_latenciesMicros
          clear nF402_b374_latenciesMicros
          have V_ts_376 := nA402_ts_376
          clear nA402_ts_376
          have V_tl_376 := nA402_tl_376
          clear nA402_tl_376
          show WP p.tables e below _ T402 (mkF m 110 #[.val (.long q1), .second, .val (.long q2), .second, .val (.long q3), .second, .val (.int p4), .val (.int p5), .val (.int p6), .val (.int (2 : Int32)), .val (.int s0), .val (.int s1), .val (.int s2), .val (.int la), .val (.int lb), .val (.int lc), .val (.ref b374), .val (.ref b378), .val (.int (0 : Int32)), .unset, .unset] [(.int (1 : Int32))])
          have bk403 : ∀ t, Steps p.tables e below (T402.setTop (mkF m 124 #[.val (.long q1), .second, .val (.long q2), .second, .val (.long q3), .second, .val (.int p4), .val (.int p5), .val (.int p6), .val (.int (2 : Int32)), .val (.int s0), .val (.int s1), .val (.int s2), .val (.int la), .val (.int lb), .val (.int lc), .val (.ref b374), .val (.ref b378), .val (.int (0 : Int32)), .val (.int (1 : Int32)), .unset] [(.long q1), (.int (0 : Int32)), (.ref b378)])) t → Steps p.tables e below (T402.setTop (mkF m 110 #[.val (.long q1), .second, .val (.long q2), .second, .val (.long q3), .second, .val (.int p4), .val (.int p5), .val (.int p6), .val (.int (2 : Int32)), .val (.int s0), .val (.int s1), .val (.int s2), .val (.int la), .val (.int lb), .val (.int lc), .val (.ref b374), .val (.ref b378), .val (.int (0 : Int32)), .unset, .unset] [(.int (1 : Int32))])) t := fun t k => by
            refine XS.istore X402.here hx rfl (hb hby at_110) rfl (l' := #[.val (.long q1), .second, .val (.long q2), .second, .val (.long q3), .second, .val (.int p4), .val (.int p5), .val (.int p6), .val (.int (2 : Int32)), .val (.int s0), .val (.int s1), .val (.int s2), .val (.int la), .val (.int lb), .val (.int lc), .val (.ref b374), .val (.ref b378), .val (.int (0 : Int32)), .val (.int (1 : Int32)), .unset]) rfl ?_
            refine XS.iload X402.here hx rfl (hb hby at_112) rfl ?_
            refine XS.ifYes X402.here hx rfl (pc0 := 114) (pc' := 119) rfl (hb hby at_114) rfl ((if0 _ _).trans (feq (by decide : ¬ ((1 : Int32) = (0 : Int32)))).2) (by decide) (by decide) ?_
            refine XS.aload X402.here hx rfl (hb hby at_119) rfl rfl ?_
            show Steps p.tables e below (T402.setTop (mkF m 121 #[.val (.long q1), .second, .val (.long q2), .second, .val (.long q3), .second, .val (.int p4), .val (.int p5), .val (.int p6), .val (.int (2 : Int32)), .val (.int s0), .val (.int s1), .val (.int s2), .val (.int la), .val (.int lb), .val (.int lc), .val (.ref b374), .val (.ref b378), .val (.int (0 : Int32)), .val (.int (1 : Int32)), .unset] [(.ref b378)])) t
            refine XS.iload X402.here hx rfl (hb hby at_121) rfl ?_
            refine XS.lloadN X402.here hx rfl (hb hby at_123) rfl ?_
            exact k
          refine WP.st bk403 ?_
          clear bk403
          obtain ⟨_, _, ⟨T404, L404, k404, n404⟩, -, X404, ⟨Lc404, hQ404, l404, y404, z404⟩, st404⟩ := Jvm.LawKit.callS X402 hx (y := (⟨"com/example/otayori/otayori/bench/PairTallyLatenciesPinLaw", "micros", "(J)I"⟩ : MethodName)) hown (mvT hZ (hw _ (List.mem_of_getElem? (i := 37) rfl))) (mvT hZ (hw _ (List.mem_of_getElem? (i := 38) rfl))) (mvT hZ (hw _ (List.mem_of_getElem? (i := 39) rfl))) (mvT hZ (hw _ (List.mem_of_getElem? (i := 40) rfl))) (by decide) (backOf (W := 2) (rm6 l Z a0 hw [] q1 h402 n0 Z0 ) hZ (hw _ (List.mem_of_getElem? (i := 40) rfl)) (hw _ (List.mem_of_getElem? (i := 39) rfl)) (by decide) (by decide)) (g := (mkF m 124 #[.val (.long q1), .second, .val (.long q2), .second, .val (.long q3), .second, .val (.int p4), .val (.int p5), .val (.int p6), .val (.int (2 : Int32)), .val (.int s0), .val (.int s1), .val (.int s2), .val (.int la), .val (.int lb), .val (.int lc), .val (.ref b374), .val (.ref b378), .val (.int (0 : Int32)), .val (.int (1 : Int32)), .unset] [(.long q1), (.int (0 : Int32)), (.ref b378)])) rfl (by rw [hml]; rfl) (argsL := [(.long q1)]) (rest := [(.int (0 : Int32)), (.ref b378)]) (lenOf pd_6 rfl) rfl (by show 2 * 0 + _ ≤ _; exact Nat.le_of_eq rfl) (hb hby at_124) (fun _ _ => ⟨rfl, e402, (by decide : 4 + 0 ≤ _), (by decide : 29 + 0 ≤ _)⟩)
          dsimp only [Pt.U, Pt.locs, Pt.cells, Pt.slots] at X404 l404 y404 z404 st404 hQ404
          subst l404 y404 z404
          obtain ⟨rfl, Nq404, Kq404⟩ := hQ404
          replace NF := Fr.app NF Nq404
          clear Nq404
          refine WP.st st404 ?_
          clear st404
          replace Kq404 := Kq404.trans (rfl : h402 = h402)
          show WP p.tables e below _ T404 (mkF m 127 #[.val (.long q1), .second, .val (.long q2), .second, .val (.long q3), .second, .val (.int p4), .val (.int p5), .val (.int p6), .val (.int (2 : Int32)), .val (.int s0), .val (.int s1), .val (.int s2), .val (.int la), .val (.int lb), .val (.int lc), .val (.ref b374), .val (.ref b378), .val (.int (0 : Int32)), .val (.int (1 : Int32)), .unset] [(.int (own_mic q1)), (.int (0 : Int32)), (.ref b378)])
          obtain ⟨cl405, Ar405, q405, S405, N405, H405, G405⟩ := V_b378
          have hin405 : ¬ ((0 : Int32) < 0 ∨ cl405.slots.size ≤ ((0 : Int32)).toNatClampNeg) := inb_of S405 ⟨by decide, by decide⟩
          obtain ⟨T406, h406, X406, e406, W406, st406⟩ := stI X404 hx hZ Kq404 Ar405 (j := (0 : Int32)) hin405 (g := (mkF m 127 #[.val (.long q1), .second, .val (.long q2), .second, .val (.long q3), .second, .val (.int p4), .val (.int p5), .val (.int p6), .val (.int (2 : Int32)), .val (.int s0), .val (.int s1), .val (.int s2), .val (.int la), .val (.int lb), .val (.int lc), .val (.ref b374), .val (.ref b378), .val (.int (0 : Int32)), .val (.int (1 : Int32)), .unset] [(.int (own_mic q1)), (.int (0 : Int32)), (.ref b378)])) rfl rfl (hb hby at_127)
          refine WP.st st406 ?_
          clear st406
          have Vn : Arv Z h406 b378 k378 .int (3 : Int32) [(.int (own_mic q1)), (.int (0 : Int32)), (.int (0 : Int32))] (.int (0 : Int32)) := Arv.set Ar405 q405 S405 N405 H405 G405 rfl W406 0 rfl (Nat.le_of_ble_eq_true rfl)
          replace E_b374 := E_b374.wr W406
          replace F_b374_highestSequence := F_b374_highestSequence.other W406 (Or.inl ne_b374_b378)
          replace F_b374_messages := F_b374_messages.other W406 (Or.inl ne_b374_b378)
          replace F_b374_delivered := F_b374_delivered.other W406 (Or.inl ne_b374_b378)
          replace F_b374_late := F_b374_late.other W406 (Or.inl ne_b374_b378)
          replace F_b374_outOfOrder := F_b374_outOfOrder.other W406 (Or.inl ne_b374_b378)
          replace F_b374_duplicated := F_b374_duplicated.other W406 (Or.inl ne_b374_b378)
          replace F_b374_lastDeliveryNanos := F_b374_lastDeliveryNanos.other W406 (Or.inl ne_b374_b378)
          replace F_b374_seen := F_b374_seen.other W406 (Or.inl ne_b374_b378)
          replace F_b374_latenciesMicros := F_b374_latenciesMicros.other W406 (Or.inl ne_b374_b378)
          replace V_ts_376 := V_ts_376.other W406 ne_ts_376_b378
          replace V_tl_376 := V_tl_376.other W406 ne_tl_376_b378
          replace Z0 := Nat.le_trans Z0 (Keep.of_wr W406).1
          replace V_b378 := Vn
          replace NF := Fr.snoc X406 NF g_b378
          clear W406 hin405 q405 S405 N405 H405 G405 Ar405
          show WP p.tables e below _ T406 (mkF m 128 #[.val (.long q1), .second, .val (.long q2), .second, .val (.long q3), .second, .val (.int p4), .val (.int p5), .val (.int p6), .val (.int (2 : Int32)), .val (.int s0), .val (.int s1), .val (.int s2), .val (.int la), .val (.int lb), .val (.int lc), .val (.ref b374), .val (.ref b378), .val (.int (0 : Int32)), .val (.int (1 : Int32)), .unset] [])
          have bk407 : ∀ t, Steps p.tables e below (T406.setTop (mkF m 131 #[.val (.long q1), .second, .val (.long q2), .second, .val (.long q3), .second, .val (.int p4), .val (.int p5), .val (.int p6), .val (.int (2 : Int32)), .val (.int s0), .val (.int s1), .val (.int s2), .val (.int la), .val (.int lb), .val (.int lc), .val (.ref b374), .val (.ref b378), .val (.int ((0 : Int32) + (1 : Int32))), .val (.int (1 : Int32)), .unset] [])) t → Steps p.tables e below (T406.setTop (mkF m 128 #[.val (.long q1), .second, .val (.long q2), .second, .val (.long q3), .second, .val (.int p4), .val (.int p5), .val (.int p6), .val (.int (2 : Int32)), .val (.int s0), .val (.int s1), .val (.int s2), .val (.int la), .val (.int lb), .val (.int lc), .val (.ref b374), .val (.ref b378), .val (.int (0 : Int32)), .val (.int (1 : Int32)), .unset] [])) t := fun t k => by
            refine XS.iinc X406.here hx rfl (hb hby at_128) rfl (l' := #[.val (.long q1), .second, .val (.long q2), .second, .val (.long q3), .second, .val (.int p4), .val (.int p5), .val (.int p6), .val (.int (2 : Int32)), .val (.int s0), .val (.int s1), .val (.int s2), .val (.int la), .val (.int lb), .val (.int lc), .val (.ref b374), .val (.ref b378), .val (.int ((0 : Int32) + (1 : Int32))), .val (.int (1 : Int32)), .unset]) rfl ?_
            exact k
          refine WP.st bk407 ?_
          clear bk407
          rw [show ((0 : Int32) + (1 : Int32)) = (1 : Int32) from by decide]
          show WP p.tables e below _ T406 (mkF m 131 #[.val (.long q1), .second, .val (.long q2), .second, .val (.long q3), .second, .val (.int p4), .val (.int p5), .val (.int p6), .val (.int (2 : Int32)), .val (.int s0), .val (.int s1), .val (.int s2), .val (.int la), .val (.int lb), .val (.int lc), .val (.ref b374), .val (.ref b378), .val (.int (1 : Int32)), .val (.int (1 : Int32)), .unset] [])
          have bk409 : ∀ t, Steps p.tables e below (T406.setTop (mkF m 141 #[.val (.long q1), .second, .val (.long q2), .second, .val (.long q3), .second, .val (.int p4), .val (.int p5), .val (.int p6), .val (.int (2 : Int32)), .val (.int s0), .val (.int s1), .val (.int s2), .val (.int la), .val (.int lb), .val (.int lc), .val (.ref b374), .val (.ref b378), .val (.int (1 : Int32)), .val (.int (1 : Int32)), .unset] [(.int s0), (.int s1)])) t → Steps p.tables e below (T406.setTop (mkF m 131 #[.val (.long q1), .second, .val (.long q2), .second, .val (.long q3), .second, .val (.int p4), .val (.int p5), .val (.int p6), .val (.int (2 : Int32)), .val (.int s0), .val (.int s1), .val (.int s2), .val (.int la), .val (.int lb), .val (.int lc), .val (.ref b374), .val (.ref b378), .val (.int (1 : Int32)), .val (.int (1 : Int32)), .unset] [])) t := fun t k => by
            refine XS.iload X406.here hx rfl (hb hby at_131) rfl ?_
            refine XS.iconst X406.here hx rfl (hb hby at_133) ?_
            refine XS.icmpNo X406.here hx rfl (hb hby at_134) rfl (flt (by decide : ¬ ((2 : Int32) < (2 : Int32)))).1 ?_
            refine XS.iload X406.here hx rfl (hb hby at_137) rfl ?_
            show Steps p.tables e below (T406.setTop (mkF m 139 #[.val (.long q1), .second, .val (.long q2), .second, .val (.long q3), .second, .val (.int p4), .val (.int p5), .val (.int p6), .val (.int (2 : Int32)), .val (.int s0), .val (.int s1), .val (.int s2), .val (.int la), .val (.int lb), .val (.int lc), .val (.ref b374), .val (.ref b378), .val (.int (1 : Int32)), .val (.int (1 : Int32)), .unset] [(.int s1)])) t
            refine XS.iload X406.here hx rfl (hb hby at_139) rfl ?_
            exact k
          refine WP.st bk409 ?_
          clear bk409
          by_cases hc408 : s1 = s0
          · skip
            have bk410 : ∀ t, Steps p.tables e below (T406.setTop (mkF m 159 #[.val (.long q1), .second, .val (.long q2), .second, .val (.long q3), .second, .val (.int p4), .val (.int p5), .val (.int p6), .val (.int (2 : Int32)), .val (.int s0), .val (.int s1), .val (.int s2), .val (.int la), .val (.int lb), .val (.int lc), .val (.ref b374), .val (.ref b378), .val (.int (1 : Int32)), .val (.int (0 : Int32)), .unset] [(.int lb), (.long (1 : Int64)), (.long q2), (.int s1), (.ref b374)])) t → Steps p.tables e below (T406.setTop (mkF m 141 #[.val (.long q1), .second, .val (.long q2), .second, .val (.long q3), .second, .val (.int p4), .val (.int p5), .val (.int p6), .val (.int (2 : Int32)), .val (.int s0), .val (.int s1), .val (.int s2), .val (.int la), .val (.int lb), .val (.int lc), .val (.ref b374), .val (.ref b378), .val (.int (1 : Int32)), .val (.int (1 : Int32)), .unset] [(.int s0), (.int s1)])) t := fun t k => by
              refine XS.icmpYes X406.here hx rfl (pc0 := 141) (pc' := 148) rfl (hb hby at_141) rfl (teq hc408).1 (by decide) (by decide) ?_
              refine XS.iconst X406.here hx rfl (hb hby at_148) ?_
              refine XS.istore X406.here hx rfl (hb hby at_149) rfl (l' := #[.val (.long q1), .second, .val (.long q2), .second, .val (.long q3), .second, .val (.int p4), .val (.int p5), .val (.int p6), .val (.int (2 : Int32)), .val (.int s0), .val (.int s1), .val (.int s2), .val (.int la), .val (.int lb), .val (.int lc), .val (.ref b374), .val (.ref b378), .val (.int (1 : Int32)), .val (.int (0 : Int32)), .unset]) rfl ?_
              refine XS.aload X406.here hx rfl (hb hby at_151) rfl rfl ?_
              show Steps p.tables e below (T406.setTop (mkF m 153 #[.val (.long q1), .second, .val (.long q2), .second, .val (.long q3), .second, .val (.int p4), .val (.int p5), .val (.int p6), .val (.int (2 : Int32)), .val (.int s0), .val (.int s1), .val (.int s2), .val (.int la), .val (.int lb), .val (.int lc), .val (.ref b374), .val (.ref b378), .val (.int (1 : Int32)), .val (.int (0 : Int32)), .unset] [(.ref b374)])) t
              refine XS.iload X406.here hx rfl (hb hby at_153) rfl ?_
              refine XS.lloadN X406.here hx rfl (hb hby at_155) rfl ?_
              refine XS.lconst X406.here hx rfl (hb hby at_156) ?_
              refine XS.iload X406.here hx rfl (hb hby at_157) rfl ?_
              exact k
            refine WP.st bk410 ?_
            clear bk410
            obtain ⟨cq411, kq411, q411a, q411b, q411c⟩ := isOf hZ e406 E_b374
            obtain ⟨_, _, ⟨T411, L411, k411, n411⟩, -, X411, ⟨Lc411, hQ411, l411, y411, z411⟩, st411⟩ := X406.virtualBack hx (y := (⟨"com/example/otayori/otayori/bench/PairTally", "record", "(IJJZ)Z"⟩ : MethodName)) (z := (⟨"com/example/otayori/otayori/bench/PairTally", "record", "(IJJZ)Z"⟩ : MethodName)) hown (mvT hZ (hw _ (List.mem_of_getElem? (i := 19) rfl))) (mvT hZ (hw _ (List.mem_of_getElem? (i := 20) rfl))) (notFace_of_selects (args := #[]) (mvT hZ (hw _ (List.mem_of_getElem? (i := 22) rfl)))) (mvT hZ (hw _ (List.mem_of_getElem? (i := 22) rfl))) (mvT hZ (hw _ (List.mem_of_getElem? (i := 21) rfl))) (by decide) (backOf (W := 0) (rm3d l Z a0 hw [] b374 s1 q2 (1 : Int64) lb s1_402 (8 : Int32) d1_402 l1_402 o1_402 (0 : Int64) n1_402 ts_376 ks_376 tl_376 kl_376 ((0 : Int64) ||| (own_bit s0)) (.int (own_lat q1)) (.int (0 : Int32)) (.int (0 : Int32)) (.int (0 : Int32)) (.int (0 : Int32)) (.int (0 : Int32)) (.int (0 : Int32)) (.int (0 : Int32)) (.int (0 : Int32)) (.int (0 : Int32)) (.int (0 : Int32)) (.int (0 : Int32)) (.int (0 : Int32)) (.int (0 : Int32)) (.int (0 : Int32)) (.int (0 : Int32)) h406 n0 Z0 E_b374 g_b374 F_b374_highestSequence F_b374_messages F_b374_delivered F_b374_late F_b374_outOfOrder F_b374_duplicated F_b374_lastDeliveryNanos F_b374_seen F_b374_latenciesMicros V_ts_376 V_tl_376 g_ts_376 g_tl_376 ne_b374_ts_376 ne_b374_tl_376 ne_tl_376_ts_376 (hs1 : own_small s1) (fun q => (own_b1 hs0 hs1).1 ((lw_eq _ _).1 q) hc408)) hZ (hw _ (List.mem_of_getElem? (i := 23) rfl)) (hw _ (List.mem_of_getElem? (i := 2) rfl)) (by decide) (by decide)) q411a q411c (g := (mkF m 159 #[.val (.long q1), .second, .val (.long q2), .second, .val (.long q3), .second, .val (.int p4), .val (.int p5), .val (.int p6), .val (.int (2 : Int32)), .val (.int s0), .val (.int s1), .val (.int s2), .val (.int la), .val (.int lb), .val (.int lc), .val (.ref b374), .val (.ref b378), .val (.int (1 : Int32)), .val (.int (0 : Int32)), .unset] [(.int lb), (.long (1 : Int64)), (.long q2), (.int s1), (.ref b374)])) rfl (by rw [hml]; rfl) (Steps.refl _) (argsL := [(.int s1), (.long q2), (.long (1 : Int64)), (.int lb)]) (rest := []) (lenOf pd_5 rfl) rfl (by show 2 * 0 + _ ≤ _; exact Nat.le_of_eq rfl) (hb hby at_159) (fun _ _ => ⟨rfl, e406, (by decide : 4 + 0 ≤ _), (by decide : 29 + 0 ≤ _)⟩)
            dsimp only [Pt.U, Pt.locs, Pt.cells, Pt.slots] at X411 l411 y411 z411 st411 hQ411
            subst l411 y411 z411
            obtain ⟨c1_411, rfl, Nq411, Kq411, nF411_b374_highestSequence, nF411_b374_messages, nF411_b374_delivered, nF411_b374_late, nF411_b374_outOfOrder, nF411_b374_duplicated, nF411_b374_lastDeliveryNanos, nF411_b374_seen, nF411_b374_latenciesMicros, nA411_ts_376, nA411_tl_376⟩ := hQ411
            replace NF := Fr.app NF Nq411
            clear Nq411
            refine WP.tr st411 ?_
            clear st411
            obtain ⟨h411, e411⟩ : ∃ h, T411.heap = h := ⟨_, rfl⟩
            rw [e411] at Kq411 nF411_b374_highestSequence nF411_b374_messages nF411_b374_delivered nF411_b374_late nF411_b374_outOfOrder nF411_b374_duplicated nF411_b374_lastDeliveryNanos nF411_b374_seen nF411_b374_latenciesMicros nA411_ts_376 nA411_tl_376
            replace E_b374 := E_b374.keep Kq411
            clear F_b374_highestSequence
            clear F_b374_messages
            clear F_b374_delivered
            clear F_b374_late
            clear F_b374_outOfOrder
            clear F_b374_duplicated
            clear F_b374_lastDeliveryNanos
            clear F_b374_seen
            clear F_b374_latenciesMicros
            clear V_ts_376
            clear V_tl_376
            replace V_b378 := V_b378.keep Kq411 (by exact ninS (Ne.symm ne_b374_b378) (ninS (Ne.symm ne_ts_376_b378) (ninS (Ne.symm ne_tl_376_b378) (nin0))))
            replace Z0 := Nat.le_trans Z0 Kq411.1
            clear Kq411
            have F_b374_highestSequence := nF411_b374_highestSequence
            clear nF411_b374_highestSequence
            have F_b374_messages := nF411_b374_messages
            clear nF411_b374_messages
            have F_b374_delivered := nF411_b374_delivered
            clear nF411_b374_delivered
            have F_b374_late := nF411_b374_late
            clear nF411_b374_late
            have F_b374_outOfOrder := nF411_b374_outOfOrder
            clear nF411_b374_outOfOrder
            have F_b374_duplicated := nF411_b374_duplicated
            clear nF411_b374_duplicated
            have F_b374_lastDeliveryNanos := nF411_b374_lastDeliveryNanos
            clear nF411_b374_lastDeliveryNanos
            have F_b374_seen := nF411_b374_seen
            clear nF411_b374_seen
            have F_b374_latenciesMicros := nF411_b374_latenciesMicros
            clear nF411_b374_latenciesMicros
            have V_ts_376 := nA411_ts_376
            clear nA411_ts_376
            have V_tl_376 := nA411_tl_376
            clear nA411_tl_376
            show WP p.tables e below _ T411 (mkF m 162 #[.val (.long q1), .second, .val (.long q2), .second, .val (.long q3), .second, .val (.int p4), .val (.int p5), .val (.int p6), .val (.int (2 : Int32)), .val (.int s0), .val (.int s1), .val (.int s2), .val (.int la), .val (.int lb), .val (.int lc), .val (.ref b374), .val (.ref b378), .val (.int (1 : Int32)), .val (.int (0 : Int32)), .unset] [(.int (0 : Int32))])
            have bk412 : ∀ t, Steps p.tables e below (T411.setTop (mkF m 262 #[.val (.long q1), .second, .val (.long q2), .second, .val (.long q3), .second, .val (.int p4), .val (.int p5), .val (.int p6), .val (.int (2 : Int32)), .val (.int s0), .val (.int s1), .val (.int s2), .val (.int la), .val (.int lb), .val (.int lc), .val (.ref b374), .val (.ref b378), .val (.int (1 : Int32)), .val (.int (0 : Int32)), .val (.int (0 : Int32))] [(.ref b374)])) t → Steps p.tables e below (T411.setTop (mkF m 162 #[.val (.long q1), .second, .val (.long q2), .second, .val (.long q3), .second, .val (.int p4), .val (.int p5), .val (.int p6), .val (.int (2 : Int32)), .val (.int s0), .val (.int s1), .val (.int s2), .val (.int la), .val (.int lb), .val (.int lc), .val (.ref b374), .val (.ref b378), .val (.int (1 : Int32)), .val (.int (0 : Int32)), .unset] [(.int (0 : Int32))])) t := fun t k => by
              refine XS.istore X411.here hx rfl (hb hby at_162) rfl (l' := #[.val (.long q1), .second, .val (.long q2), .second, .val (.long q3), .second, .val (.int p4), .val (.int p5), .val (.int p6), .val (.int (2 : Int32)), .val (.int s0), .val (.int s1), .val (.int s2), .val (.int la), .val (.int lb), .val (.int lc), .val (.ref b374), .val (.ref b378), .val (.int (1 : Int32)), .val (.int (0 : Int32)), .val (.int (0 : Int32))]) rfl ?_
              refine XS.iload X411.here hx rfl (hb hby at_164) rfl ?_
              refine XS.iload X411.here hx rfl (hb hby at_166) rfl ?_
              refine XS.icmpYes X411.here hx rfl (pc0 := 168) (pc' := 173) rfl (hb hby at_168) rfl (teq (by decide : (0 : Int32) = (0 : Int32))).1 (by decide) (by decide) ?_
              show Steps p.tables e below (T411.setTop (mkF m 173 #[.val (.long q1), .second, .val (.long q2), .second, .val (.long q3), .second, .val (.int p4), .val (.int p5), .val (.int p6), .val (.int (2 : Int32)), .val (.int s0), .val (.int s1), .val (.int s2), .val (.int la), .val (.int lb), .val (.int lc), .val (.ref b374), .val (.ref b378), .val (.int (1 : Int32)), .val (.int (0 : Int32)), .val (.int (0 : Int32))] [])) t
              refine XS.iload X411.here hx rfl (hb hby at_173) rfl ?_
              refine XS.ifYes X411.here hx rfl (pc0 := 175) (pc' := 190) rfl (hb hby at_175) rfl ((if0 _ _).trans (teq (by decide : (0 : Int32) = (0 : Int32))).1) (by decide) (by decide) ?_
              refine XS.iload X411.here hx rfl (hb hby at_190) rfl ?_
              refine XS.iconst X411.here hx rfl (hb hby at_192) ?_
              show Steps p.tables e below (T411.setTop (mkF m 193 #[.val (.long q1), .second, .val (.long q2), .second, .val (.long q3), .second, .val (.int p4), .val (.int p5), .val (.int p6), .val (.int (2 : Int32)), .val (.int s0), .val (.int s1), .val (.int s2), .val (.int la), .val (.int lb), .val (.int lc), .val (.ref b374), .val (.ref b378), .val (.int (1 : Int32)), .val (.int (0 : Int32)), .val (.int (0 : Int32))] [(.int (3 : Int32)), (.int (2 : Int32))])) t
              refine XS.icmpYes X411.here hx rfl (pc0 := 193) (pc' := 260) rfl (hb hby at_193) rfl (tlt (by decide : (2 : Int32) < (3 : Int32))).1 (by decide) (by decide) ?_
              refine XS.aload X411.here hx rfl (hb hby at_260) rfl rfl ?_
              exact k
            refine WP.st bk412 ?_
            clear bk412
            obtain ⟨cq413, kq413, q413a, q413b, q413c⟩ := isOf hZ e411 E_b374
            obtain ⟨_, _, ⟨T413, L413, k413, n413⟩, -, X413, ⟨Lc413, hQ413, l413, y413, z413⟩, st413⟩ := X411.virtualBack hx (y := (⟨"com/example/otayori/otayori/bench/PairTally", "latencies", "()[I"⟩ : MethodName)) (z := (⟨"com/example/otayori/otayori/bench/PairTally", "latencies", "()[I"⟩ : MethodName)) hown (mvT hZ (hw _ (List.mem_of_getElem? (i := 48) rfl))) (mvT hZ (hw _ (List.mem_of_getElem? (i := 49) rfl))) (notFace_of_selects (args := #[]) (mvT hZ (hw _ (List.mem_of_getElem? (i := 51) rfl)))) (mvT hZ (hw _ (List.mem_of_getElem? (i := 51) rfl))) (mvT hZ (hw _ (List.mem_of_getElem? (i := 50) rfl))) (by decide) (backOf (W := 0) (rm7k1 l Z a0 hw [] b374 tl_376 kl_376 d1_402 l1_402 (.int (own_lat q1)) (.int (0 : Int32)) (.int (0 : Int32)) (.int (0 : Int32)) (.int (0 : Int32)) (.int (0 : Int32)) (.int (0 : Int32)) (.int (0 : Int32)) (.int (0 : Int32)) (.int (0 : Int32)) (.int (0 : Int32)) (.int (0 : Int32)) (.int (0 : Int32)) (.int (0 : Int32)) (.int (0 : Int32)) (.int (0 : Int32)) h411 n0 Z0 F_b374_latenciesMicros F_b374_delivered F_b374_late V_tl_376 (hde1_402 : d1_402 + l1_402 = (1 : Int64))) hZ (hw _ (List.mem_of_getElem? (i := 52) rfl)) (hw _ (List.mem_of_getElem? (i := 2) rfl)) (by decide) (by decide)) q413a q413c (g := (mkF m 262 #[.val (.long q1), .second, .val (.long q2), .second, .val (.long q3), .second, .val (.int p4), .val (.int p5), .val (.int p6), .val (.int (2 : Int32)), .val (.int s0), .val (.int s1), .val (.int s2), .val (.int la), .val (.int lb), .val (.int lc), .val (.ref b374), .val (.ref b378), .val (.int (1 : Int32)), .val (.int (0 : Int32)), .val (.int (0 : Int32))] [(.ref b374)])) rfl (by rw [hml]; rfl) (Steps.refl _) (argsL := []) (rest := []) (lenOf pd_4 rfl) rfl (by show 2 * 0 + _ ≤ _; exact Nat.le_of_eq rfl) (hb hby at_262) (fun _ _ => ⟨rfl, e411, (by decide : 4 + 1 ≤ _), (by decide : 29 + 1 ≤ _)⟩)
            dsimp only [Pt.U, Pt.locs, Pt.cells, Pt.slots] at X413 l413 y413 z413 st413 hQ413
            subst l413 y413 z413
            obtain ⟨r_413, kr_413, rfl, Nq413, Kq413, szq_r_413, nA413_r_413⟩ := hQ413
            replace NF := Fr.app NF Nq413
            clear Nq413
            refine WP.tr st413 ?_
            clear st413
            obtain ⟨h413, e413⟩ : ∃ h, T413.heap = h := ⟨_, rfl⟩
            rw [e413] at Kq413 nA413_r_413
            have ne_b374_r_413 : b374 ≠ r_413 := Nat.ne_of_lt (Nat.lt_of_lt_of_le E_b374.lt szq_r_413)
            have ne_b378_r_413 : b378 ≠ r_413 := Nat.ne_of_lt (Nat.lt_of_lt_of_le V_b378.lt szq_r_413)
            have ne_ts_376_r_413 : ts_376 ≠ r_413 := Nat.ne_of_lt (Nat.lt_of_lt_of_le V_ts_376.lt szq_r_413)
            have ne_tl_376_r_413 : tl_376 ≠ r_413 := Nat.ne_of_lt (Nat.lt_of_lt_of_le V_tl_376.lt szq_r_413)
            replace E_b374 := E_b374.keep Kq413
            replace V_b378 := V_b378.keep Kq413 (by exact nin0)
            replace F_b374_highestSequence := F_b374_highestSequence.keep Kq413 (by exact nin0)
            replace F_b374_messages := F_b374_messages.keep Kq413 (by exact nin0)
            replace F_b374_delivered := F_b374_delivered.keep Kq413 (by exact nin0)
            replace F_b374_late := F_b374_late.keep Kq413 (by exact nin0)
            replace F_b374_outOfOrder := F_b374_outOfOrder.keep Kq413 (by exact nin0)
            replace F_b374_duplicated := F_b374_duplicated.keep Kq413 (by exact nin0)
            replace F_b374_lastDeliveryNanos := F_b374_lastDeliveryNanos.keep Kq413 (by exact nin0)
            replace F_b374_seen := F_b374_seen.keep Kq413 (by exact nin0)
            replace F_b374_latenciesMicros := F_b374_latenciesMicros.keep Kq413 (by exact nin0)
            replace V_ts_376 := V_ts_376.keep Kq413 (by exact nin0)
            replace V_tl_376 := V_tl_376.keep Kq413 (by exact nin0)
            replace Z0 := Nat.le_trans Z0 Kq413.1
            clear Kq413
            have V_r_413 := nA413_r_413
            clear nA413_r_413
            show WP p.tables e below _ T413 (mkF m 265 #[.val (.long q1), .second, .val (.long q2), .second, .val (.long q3), .second, .val (.int p4), .val (.int p5), .val (.int p6), .val (.int (2 : Int32)), .val (.int s0), .val (.int s1), .val (.int s2), .val (.int la), .val (.int lb), .val (.int lc), .val (.ref b374), .val (.ref b378), .val (.int (1 : Int32)), .val (.int (0 : Int32)), .val (.int (0 : Int32))] [(.ref r_413)])
            have bk414 : ∀ t, Steps p.tables e below (T413.setTop (mkF m 269 #[.val (.long q1), .second, .val (.long q2), .second, .val (.long q3), .second, .val (.int p4), .val (.int p5), .val (.int p6), .val (.int (2 : Int32)), .val (.int s0), .val (.int s1), .val (.int s2), .val (.int la), .val (.int lb), .val (.int lc), .val (.ref b374), .val (.ref b378), .val (.int (1 : Int32)), .val (.ref r_413), .val (.int (0 : Int32))] [(.ref r_413)])) t → Steps p.tables e below (T413.setTop (mkF m 265 #[.val (.long q1), .second, .val (.long q2), .second, .val (.long q3), .second, .val (.int p4), .val (.int p5), .val (.int p6), .val (.int (2 : Int32)), .val (.int s0), .val (.int s1), .val (.int s2), .val (.int la), .val (.int lb), .val (.int lc), .val (.ref b374), .val (.ref b378), .val (.int (1 : Int32)), .val (.int (0 : Int32)), .val (.int (0 : Int32))] [(.ref r_413)])) t := fun t k => by
              refine XS.astore X413.here hx rfl (hb hby at_265) rfl rfl (l' := #[.val (.long q1), .second, .val (.long q2), .second, .val (.long q3), .second, .val (.int p4), .val (.int p5), .val (.int p6), .val (.int (2 : Int32)), .val (.int s0), .val (.int s1), .val (.int s2), .val (.int la), .val (.int lb), .val (.int lc), .val (.ref b374), .val (.ref b378), .val (.int (1 : Int32)), .val (.ref r_413), .val (.int (0 : Int32))]) rfl ?_
              refine XS.aload X413.here hx rfl (hb hby at_267) rfl rfl ?_
              exact k
            refine WP.st bk414 ?_
            clear bk414
            obtain ⟨cl415, Ar415, len415⟩ := V_r_413.len
            have bk416 : ∀ t, Steps p.tables e below (T413.setTop (mkF m 286 #[.val (.long q1), .second, .val (.long q2), .second, .val (.long q3), .second, .val (.int p4), .val (.int p5), .val (.int p6), .val (.int (2 : Int32)), .val (.int s0), .val (.int s1), .val (.int s2), .val (.int la), .val (.int lb), .val (.int lc), .val (.ref b374), .val (.ref b378), .val (.int (1 : Int32)), .val (.ref r_413), .val (.int (0 : Int32))] [(.int (0 : Int32)), (.ref r_413)])) t → Steps p.tables e below (T413.setTop (mkF m 269 #[.val (.long q1), .second, .val (.long q2), .second, .val (.long q3), .second, .val (.int p4), .val (.int p5), .val (.int p6), .val (.int (2 : Int32)), .val (.int s0), .val (.int s1), .val (.int s2), .val (.int la), .val (.int lb), .val (.int lc), .val (.ref b374), .val (.ref b378), .val (.int (1 : Int32)), .val (.ref r_413), .val (.int (0 : Int32))] [(.ref r_413)])) t := fun t k => by
              refine X413.arraylength hx (by rw [e413]; exact Ar415.1) (State.isArrayOf_alike hZ.alike Ar415.2.1) (g := (mkF m 269 #[.val (.long q1), .second, .val (.long q2), .second, .val (.long q3), .second, .val (.int p4), .val (.int p5), .val (.int p6), .val (.int (2 : Int32)), .val (.int s0), .val (.int s1), .val (.int s2), .val (.int la), .val (.int lb), .val (.int lc), .val (.ref b374), .val (.ref b378), .val (.int (1 : Int32)), .val (.ref r_413), .val (.int (0 : Int32))] [(.ref r_413)])) rfl rfl (hb hby at_269) _ ?_
              rw [len415]
              refine XS.iload X413.here hx rfl (hb hby at_270) rfl ?_
              refine XS.icmpYes X413.here hx rfl (pc0 := 272) (pc' := 277) rfl (hb hby at_272) rfl (teq (by decide : (1 : Int32) = (1 : Int32))).1 (by decide) (by decide) ?_
              refine XS.iload X413.here hx rfl (hb hby at_277) rfl ?_
              show Steps p.tables e below (T413.setTop (mkF m 279 #[.val (.long q1), .second, .val (.long q2), .second, .val (.long q3), .second, .val (.int p4), .val (.int p5), .val (.int p6), .val (.int (2 : Int32)), .val (.int s0), .val (.int s1), .val (.int s2), .val (.int la), .val (.int lb), .val (.int lc), .val (.ref b374), .val (.ref b378), .val (.int (1 : Int32)), .val (.ref r_413), .val (.int (0 : Int32))] [(.int (1 : Int32))])) t
              refine XS.iconst X413.here hx rfl (hb hby at_279) ?_
              refine XS.icmpNo X413.here hx rfl (hb hby at_280) rfl (flt (by decide : ¬ ((1 : Int32) < (1 : Int32)))).1 ?_
              refine XS.aload X413.here hx rfl (hb hby at_283) rfl rfl ?_
              refine XS.iconst X413.here hx rfl (hb hby at_285) ?_
              exact k
            refine WP.st bk416 ?_
            clear bk416
            obtain ⟨cl417, Ar417, hin417, hat417, -⟩ := V_r_413.rd (j := (0 : Int32)) ⟨by decide, by decide⟩
            replace hat417 : cl417.slots[((0 : Int32)).toNatClampNeg]? = some (.int (own_lat q1)) := hat417
            have bk418 : ∀ t, Steps p.tables e below (T413.setTop (mkF m 290 #[.val (.long q1), .second, .val (.long q2), .second, .val (.long q3), .second, .val (.int p4), .val (.int p5), .val (.int p6), .val (.int (2 : Int32)), .val (.int s0), .val (.int s1), .val (.int s2), .val (.int la), .val (.int lb), .val (.int lc), .val (.ref b374), .val (.ref b378), .val (.int (1 : Int32)), .val (.ref r_413), .val (.int (0 : Int32))] [(.int (0 : Int32)), (.ref b378), (.int (own_lat q1))])) t → Steps p.tables e below (T413.setTop (mkF m 286 #[.val (.long q1), .second, .val (.long q2), .second, .val (.long q3), .second, .val (.int p4), .val (.int p5), .val (.int p6), .val (.int (2 : Int32)), .val (.int s0), .val (.int s1), .val (.int s2), .val (.int la), .val (.int lb), .val (.int lc), .val (.ref b374), .val (.ref b378), .val (.int (1 : Int32)), .val (.ref r_413), .val (.int (0 : Int32))] [(.int (0 : Int32)), (.ref r_413)])) t := fun t k => by
              refine X413.iaload hx (j := (0 : Int32)) (v := (.int (own_lat q1))) (by rw [e413]; exact Ar417.1) (State.isArrayOf_alike hZ.alike Ar417.2.1) Ar417.2.2 hin417 hat417 (g := (mkF m 286 #[.val (.long q1), .second, .val (.long q2), .second, .val (.long q3), .second, .val (.int p4), .val (.int p5), .val (.int p6), .val (.int (2 : Int32)), .val (.int s0), .val (.int s1), .val (.int s2), .val (.int la), .val (.int lb), .val (.int lc), .val (.ref b374), .val (.ref b378), .val (.int (1 : Int32)), .val (.ref r_413), .val (.int (0 : Int32))] [(.int (0 : Int32)), (.ref r_413)])) rfl rfl (hb hby at_286) _ ?_
              refine XS.aload X413.here hx rfl (hb hby at_287) rfl rfl ?_
              refine XS.iconst X413.here hx rfl (hb hby at_289) ?_
              exact k
            refine WP.st bk418 ?_
            clear bk418
            obtain ⟨cl419, Ar419, hin419, hat419, -⟩ := V_b378.rd (j := (0 : Int32)) ⟨by decide, by decide⟩
            replace hat419 : cl419.slots[((0 : Int32)).toNatClampNeg]? = some (.int (own_mic q1)) := hat419
            have bk420 : ∀ t, Steps p.tables e below (T413.setTop (mkF m 335 #[.val (.long q1), .second, .val (.long q2), .second, .val (.long q3), .second, .val (.int p4), .val (.int p5), .val (.int p6), .val (.int (2 : Int32)), .val (.int s0), .val (.int s1), .val (.int s2), .val (.int la), .val (.int lb), .val (.int lc), .val (.ref b374), .val (.ref b378), .val (.int (1 : Int32)), .val (.ref r_413), .val (.int (0 : Int32))] [(.int (1 : Int32))])) t → Steps p.tables e below (T413.setTop (mkF m 290 #[.val (.long q1), .second, .val (.long q2), .second, .val (.long q3), .second, .val (.int p4), .val (.int p5), .val (.int p6), .val (.int (2 : Int32)), .val (.int s0), .val (.int s1), .val (.int s2), .val (.int la), .val (.int lb), .val (.int lc), .val (.ref b374), .val (.ref b378), .val (.int (1 : Int32)), .val (.ref r_413), .val (.int (0 : Int32))] [(.int (0 : Int32)), (.ref b378), (.int (own_lat q1))])) t := fun t k => by
              refine X413.iaload hx (j := (0 : Int32)) (v := (.int (own_mic q1))) (by rw [e413]; exact Ar419.1) (State.isArrayOf_alike hZ.alike Ar419.2.1) Ar419.2.2 hin419 hat419 (g := (mkF m 290 #[.val (.long q1), .second, .val (.long q2), .second, .val (.long q3), .second, .val (.int p4), .val (.int p5), .val (.int p6), .val (.int (2 : Int32)), .val (.int s0), .val (.int s1), .val (.int s2), .val (.int la), .val (.int lb), .val (.int lc), .val (.ref b374), .val (.ref b378), .val (.int (1 : Int32)), .val (.ref r_413), .val (.int (0 : Int32))] [(.int (0 : Int32)), (.ref b378), (.int (own_lat q1))])) rfl rfl (hb hby at_290) _ ?_
              refine XS.icmpYes X413.here hx rfl (pc0 := 291) (pc' := 296) rfl (hb hby at_291) rfl (teq (own_lm q1)).1 (by decide) (by decide) ?_
              refine XS.iload X413.here hx rfl (hb hby at_296) rfl ?_
              refine XS.iconst X413.here hx rfl (hb hby at_298) ?_
              show Steps p.tables e below (T413.setTop (mkF m 299 #[.val (.long q1), .second, .val (.long q2), .second, .val (.long q3), .second, .val (.int p4), .val (.int p5), .val (.int p6), .val (.int (2 : Int32)), .val (.int s0), .val (.int s1), .val (.int s2), .val (.int la), .val (.int lb), .val (.int lc), .val (.ref b374), .val (.ref b378), .val (.int (1 : Int32)), .val (.ref r_413), .val (.int (0 : Int32))] [(.int (2 : Int32)), (.int (1 : Int32))])) t
              refine XS.icmpYes X413.here hx rfl (pc0 := 299) (pc' := 315) rfl (hb hby at_299) rfl (tlt (by decide : (1 : Int32) < (2 : Int32))).1 (by decide) (by decide) ?_
              refine XS.iload X413.here hx rfl (hb hby at_315) rfl ?_
              refine XS.iconst X413.here hx rfl (hb hby at_317) ?_
              refine XS.icmpYes X413.here hx rfl (pc0 := 318) (pc' := 334) rfl (hb hby at_318) rfl (tlt (by decide : (1 : Int32) < (3 : Int32))).1 (by decide) (by decide) ?_
              show Steps p.tables e below (T413.setTop (mkF m 334 #[.val (.long q1), .second, .val (.long q2), .second, .val (.long q3), .second, .val (.int p4), .val (.int p5), .val (.int p6), .val (.int (2 : Int32)), .val (.int s0), .val (.int s1), .val (.int s2), .val (.int la), .val (.int lb), .val (.int lc), .val (.ref b374), .val (.ref b378), .val (.int (1 : Int32)), .val (.ref r_413), .val (.int (0 : Int32))] [])) t
              refine XS.iconst X413.here hx rfl (hb hby at_334) ?_
              exact k
            refine WP.st bk420 ?_
            clear bk420
            subst hG
            obtain ⟨fs, hr, hrun, hended, hW, hsame⟩ := X413.leave (v := some (.int (1 : Int32))) (fun h => by rw [Bd.returns] at h; cases h)
            refine WP.fin ⟨_, _, ?_, hrun, hended, _, _, rfl, ?_, ⟨_, rfl⟩, hW, hsame.mono (by decide) (by decide)⟩
            · exact retN X413 hx (t := .boolean) Bd.returns (by simp) (hb hby at_335) hr
            · show Q0 Z q1 q2 q3 p4 p5 p6 h0 n0 _ T413.heap _
              rw [e413]
              exact ⟨rfl, NF⟩
          · skip
            have bk421 : ∀ t, Steps p.tables e below (T406.setTop (mkF m 159 #[.val (.long q1), .second, .val (.long q2), .second, .val (.long q3), .second, .val (.int p4), .val (.int p5), .val (.int p6), .val (.int (2 : Int32)), .val (.int s0), .val (.int s1), .val (.int s2), .val (.int la), .val (.int lb), .val (.int lc), .val (.ref b374), .val (.ref b378), .val (.int (1 : Int32)), .val (.int (1 : Int32)), .unset] [(.int lb), (.long (1 : Int64)), (.long q2), (.int s1), (.ref b374)])) t → Steps p.tables e below (T406.setTop (mkF m 141 #[.val (.long q1), .second, .val (.long q2), .second, .val (.long q3), .second, .val (.int p4), .val (.int p5), .val (.int p6), .val (.int (2 : Int32)), .val (.int s0), .val (.int s1), .val (.int s2), .val (.int la), .val (.int lb), .val (.int lc), .val (.ref b374), .val (.ref b378), .val (.int (1 : Int32)), .val (.int (1 : Int32)), .unset] [(.int s0), (.int s1)])) t := fun t k => by
              refine XS.icmpNo X406.here hx rfl (hb hby at_141) rfl (feq hc408).1 ?_
              refine XS.iconst X406.here hx rfl (hb hby at_144) ?_
              refine XS.goto X406.here hx rfl (pc0 := 145) (pc' := 149) rfl (hb hby at_145) (by decide) (by decide) ?_
              refine XS.istore X406.here hx rfl (hb hby at_149) rfl (l' := #[.val (.long q1), .second, .val (.long q2), .second, .val (.long q3), .second, .val (.int p4), .val (.int p5), .val (.int p6), .val (.int (2 : Int32)), .val (.int s0), .val (.int s1), .val (.int s2), .val (.int la), .val (.int lb), .val (.int lc), .val (.ref b374), .val (.ref b378), .val (.int (1 : Int32)), .val (.int (1 : Int32)), .unset]) rfl ?_
              show Steps p.tables e below (T406.setTop (mkF m 151 #[.val (.long q1), .second, .val (.long q2), .second, .val (.long q3), .second, .val (.int p4), .val (.int p5), .val (.int p6), .val (.int (2 : Int32)), .val (.int s0), .val (.int s1), .val (.int s2), .val (.int la), .val (.int lb), .val (.int lc), .val (.ref b374), .val (.ref b378), .val (.int (1 : Int32)), .val (.int (1 : Int32)), .unset] [])) t
              refine XS.aload X406.here hx rfl (hb hby at_151) rfl rfl ?_
              refine XS.iload X406.here hx rfl (hb hby at_153) rfl ?_
              refine XS.lloadN X406.here hx rfl (hb hby at_155) rfl ?_
              refine XS.lconst X406.here hx rfl (hb hby at_156) ?_
              show Steps p.tables e below (T406.setTop (mkF m 157 #[.val (.long q1), .second, .val (.long q2), .second, .val (.long q3), .second, .val (.int p4), .val (.int p5), .val (.int p6), .val (.int (2 : Int32)), .val (.int s0), .val (.int s1), .val (.int s2), .val (.int la), .val (.int lb), .val (.int lc), .val (.ref b374), .val (.ref b378), .val (.int (1 : Int32)), .val (.int (1 : Int32)), .unset] [(.long (1 : Int64)), (.long q2), (.int s1), (.ref b374)])) t
              refine XS.iload X406.here hx rfl (hb hby at_157) rfl ?_
              exact k
            refine WP.st bk421 ?_
            clear bk421
            obtain ⟨cq422, kq422, q422a, q422b, q422c⟩ := isOf hZ e406 E_b374
            obtain ⟨_, _, ⟨T422, L422, k422, n422⟩, -, X422, ⟨Lc422, hQ422, l422, y422, z422⟩, st422⟩ := X406.virtualBack hx (y := (⟨"com/example/otayori/otayori/bench/PairTally", "record", "(IJJZ)Z"⟩ : MethodName)) (z := (⟨"com/example/otayori/otayori/bench/PairTally", "record", "(IJJZ)Z"⟩ : MethodName)) hown (mvT hZ (hw _ (List.mem_of_getElem? (i := 19) rfl))) (mvT hZ (hw _ (List.mem_of_getElem? (i := 20) rfl))) (notFace_of_selects (args := #[]) (mvT hZ (hw _ (List.mem_of_getElem? (i := 22) rfl)))) (mvT hZ (hw _ (List.mem_of_getElem? (i := 22) rfl))) (mvT hZ (hw _ (List.mem_of_getElem? (i := 21) rfl))) (by decide) (backOf (W := 0) (rm3f1 l Z a0 hw [] b374 s1 q2 (1 : Int64) lb s1_402 (8 : Int32) d1_402 l1_402 o1_402 (0 : Int64) n1_402 ts_376 ks_376 tl_376 kl_376 ((0 : Int64) ||| (own_bit s0)) (.int (own_lat q1)) (.int (0 : Int32)) (.int (0 : Int32)) (.int (0 : Int32)) (.int (0 : Int32)) (.int (0 : Int32)) (.int (0 : Int32)) (.int (0 : Int32)) (.int (0 : Int32)) (.int (0 : Int32)) (.int (0 : Int32)) (.int (0 : Int32)) (.int (0 : Int32)) (.int (0 : Int32)) (.int (0 : Int32)) (.int (0 : Int32)) h406 n0 Z0 E_b374 g_b374 F_b374_highestSequence F_b374_messages F_b374_delivered F_b374_late F_b374_outOfOrder F_b374_duplicated F_b374_lastDeliveryNanos F_b374_seen F_b374_latenciesMicros V_ts_376 V_tl_376 g_ts_376 g_tl_376 ne_b374_ts_376 ne_b374_tl_376 ne_tl_376_ts_376 (hs1 : own_small s1) ((lw_eq _ _).2 ((own_b1 hs0 hs1).2 hc408)) (hde1_402 : d1_402 + l1_402 = (1 : Int64))) hZ (hw _ (List.mem_of_getElem? (i := 23) rfl)) (hw _ (List.mem_of_getElem? (i := 2) rfl)) (by decide) (by decide)) q422a q422c (g := (mkF m 159 #[.val (.long q1), .second, .val (.long q2), .second, .val (.long q3), .second, .val (.int p4), .val (.int p5), .val (.int p6), .val (.int (2 : Int32)), .val (.int s0), .val (.int s1), .val (.int s2), .val (.int la), .val (.int lb), .val (.int lc), .val (.ref b374), .val (.ref b378), .val (.int (1 : Int32)), .val (.int (1 : Int32)), .unset] [(.int lb), (.long (1 : Int64)), (.long q2), (.int s1), (.ref b374)])) rfl (by rw [hml]; rfl) (Steps.refl _) (argsL := [(.int s1), (.long q2), (.long (1 : Int64)), (.int lb)]) (rest := []) (lenOf pd_5 rfl) rfl (by show 2 * 0 + _ ≤ _; exact Nat.le_of_eq rfl) (hb hby at_159) (fun _ _ => ⟨rfl, e406, (by decide : 4 + 0 ≤ _), (by decide : 29 + 0 ≤ _)⟩)
            dsimp only [Pt.U, Pt.locs, Pt.cells, Pt.slots] at X422 l422 y422 z422 st422 hQ422
            subst l422 y422 z422
            obtain ⟨d1_422, l1_422, s1_422, o1_422, n1_422, rfl, Nq422, Kq422, nF422_b374_highestSequence, nF422_b374_messages, nF422_b374_delivered, nF422_b374_late, nF422_b374_outOfOrder, nF422_b374_duplicated, nF422_b374_lastDeliveryNanos, nF422_b374_seen, nF422_b374_latenciesMicros, nA422_ts_376, nA422_tl_376, hde1_422⟩ := hQ422
            replace NF := Fr.app NF Nq422
            clear Nq422
            refine WP.tr st422 ?_
            clear st422
            obtain ⟨h422, e422⟩ : ∃ h, T422.heap = h := ⟨_, rfl⟩
            rw [e422] at Kq422 nF422_b374_highestSequence nF422_b374_messages nF422_b374_delivered nF422_b374_late nF422_b374_outOfOrder nF422_b374_duplicated nF422_b374_lastDeliveryNanos nF422_b374_seen nF422_b374_latenciesMicros nA422_ts_376 nA422_tl_376
            replace E_b374 := E_b374.keep Kq422
            clear F_b374_highestSequence
            clear F_b374_messages
            clear F_b374_delivered
            clear F_b374_late
            clear F_b374_outOfOrder
            clear F_b374_duplicated
            clear F_b374_lastDeliveryNanos
            clear F_b374_seen
            clear F_b374_latenciesMicros
            clear V_ts_376
            clear V_tl_376
            replace V_b378 := V_b378.keep Kq422 (by exact ninS (Ne.symm ne_b374_b378) (ninS (Ne.symm ne_ts_376_b378) (ninS (Ne.symm ne_tl_376_b378) (nin0))))
            replace Z0 := Nat.le_trans Z0 Kq422.1
            clear Kq422
            have F_b374_highestSequence := nF422_b374_highestSequence
            clear nF422_b374_highestSequence
            have F_b374_messages := nF422_b374_messages
            clear nF422_b374_messages
            have F_b374_delivered := nF422_b374_delivered
            clear nF422_b374_delivered
            have F_b374_late := nF422_b374_late
            clear nF422_b374_late
            have F_b374_outOfOrder := nF422_b374_outOfOrder
            clear nF422_b374_outOfOrder
            have F_b374_duplicated := nF422_b374_duplicated
            clear nF422_b374_duplicated
            have F_b374_lastDeliveryNanos := nF422_b374_lastDeliveryNanos
            clear nF422_b374_lastDeliveryNanos
            have F_b374_seen := nF422_b374_seen
            clear nF422_b374_seen
            have F_b374_latenciesMicros := nF422_b374_latenciesMicros
            clear nF422_b374_latenciesMicros
            have V_ts_376 := nA422_ts_376
            clear nA422_ts_376
            have V_tl_376 := nA422_tl_376
            clear nA422_tl_376
            show WP p.tables e below _ T422 (mkF m 162 #[.val (.long q1), .second, .val (.long q2), .second, .val (.long q3), .second, .val (.int p4), .val (.int p5), .val (.int p6), .val (.int (2 : Int32)), .val (.int s0), .val (.int s1), .val (.int s2), .val (.int la), .val (.int lb), .val (.int lc), .val (.ref b374), .val (.ref b378), .val (.int (1 : Int32)), .val (.int (1 : Int32)), .unset] [(.int (1 : Int32))])
            have bk423 : ∀ t, Steps p.tables e below (T422.setTop (mkF m 183 #[.val (.long q1), .second, .val (.long q2), .second, .val (.long q3), .second, .val (.int p4), .val (.int p5), .val (.int p6), .val (.int (2 : Int32)), .val (.int s0), .val (.int s1), .val (.int s2), .val (.int la), .val (.int lb), .val (.int lc), .val (.ref b374), .val (.ref b378), .val (.int (1 : Int32)), .val (.int (1 : Int32)), .val (.int (1 : Int32))] [(.long q2), (.int (1 : Int32)), (.ref b378)])) t → Steps p.tables e below (T422.setTop (mkF m 162 #[.val (.long q1), .second, .val (.long q2), .second, .val (.long q3), .second, .val (.int p4), .val (.int p5), .val (.int p6), .val (.int (2 : Int32)), .val (.int s0), .val (.int s1), .val (.int s2), .val (.int la), .val (.int lb), .val (.int lc), .val (.ref b374), .val (.ref b378), .val (.int (1 : Int32)), .val (.int (1 : Int32)), .unset] [(.int (1 : Int32))])) t := fun t k => by
              refine XS.istore X422.here hx rfl (hb hby at_162) rfl (l' := #[.val (.long q1), .second, .val (.long q2), .second, .val (.long q3), .second, .val (.int p4), .val (.int p5), .val (.int p6), .val (.int (2 : Int32)), .val (.int s0), .val (.int s1), .val (.int s2), .val (.int la), .val (.int lb), .val (.int lc), .val (.ref b374), .val (.ref b378), .val (.int (1 : Int32)), .val (.int (1 : Int32)), .val (.int (1 : Int32))]) rfl ?_
              refine XS.iload X422.here hx rfl (hb hby at_164) rfl ?_
              refine XS.iload X422.here hx rfl (hb hby at_166) rfl ?_
              refine XS.icmpYes X422.here hx rfl (pc0 := 168) (pc' := 173) rfl (hb hby at_168) rfl (teq (by decide : (1 : Int32) = (1 : Int32))).1 (by decide) (by decide) ?_
              show Steps p.tables e below (T422.setTop (mkF m 173 #[.val (.long q1), .second, .val (.long q2), .second, .val (.long q3), .second, .val (.int p4), .val (.int p5), .val (.int p6), .val (.int (2 : Int32)), .val (.int s0), .val (.int s1), .val (.int s2), .val (.int la), .val (.int lb), .val (.int lc), .val (.ref b374), .val (.ref b378), .val (.int (1 : Int32)), .val (.int (1 : Int32)), .val (.int (1 : Int32))] [])) t
              refine XS.iload X422.here hx rfl (hb hby at_173) rfl ?_
              refine XS.ifNo X422.here hx rfl (hb hby at_175) rfl ((if0 _ _).trans (feq (by decide : ¬ ((1 : Int32) = (0 : Int32)))).1) ?_
              refine XS.aload X422.here hx rfl (hb hby at_178) rfl rfl ?_
              refine XS.iload X422.here hx rfl (hb hby at_180) rfl ?_
              show Steps p.tables e below (T422.setTop (mkF m 182 #[.val (.long q1), .second, .val (.long q2), .second, .val (.long q3), .second, .val (.int p4), .val (.int p5), .val (.int p6), .val (.int (2 : Int32)), .val (.int s0), .val (.int s1), .val (.int s2), .val (.int la), .val (.int lb), .val (.int lc), .val (.ref b374), .val (.ref b378), .val (.int (1 : Int32)), .val (.int (1 : Int32)), .val (.int (1 : Int32))] [(.int (1 : Int32)), (.ref b378)])) t
              refine XS.lloadN X422.here hx rfl (hb hby at_182) rfl ?_
              exact k
            refine WP.st bk423 ?_
            clear bk423
            obtain ⟨_, _, ⟨T424, L424, k424, n424⟩, -, X424, ⟨Lc424, hQ424, l424, y424, z424⟩, st424⟩ := Jvm.LawKit.callS X422 hx (y := (⟨"com/example/otayori/otayori/bench/PairTallyLatenciesPinLaw", "micros", "(J)I"⟩ : MethodName)) hown (mvT hZ (hw _ (List.mem_of_getElem? (i := 37) rfl))) (mvT hZ (hw _ (List.mem_of_getElem? (i := 38) rfl))) (mvT hZ (hw _ (List.mem_of_getElem? (i := 39) rfl))) (mvT hZ (hw _ (List.mem_of_getElem? (i := 40) rfl))) (by decide) (backOf (W := 2) (rm6 l Z a0 hw [] q2 h422 n0 Z0 ) hZ (hw _ (List.mem_of_getElem? (i := 40) rfl)) (hw _ (List.mem_of_getElem? (i := 39) rfl)) (by decide) (by decide)) (g := (mkF m 183 #[.val (.long q1), .second, .val (.long q2), .second, .val (.long q3), .second, .val (.int p4), .val (.int p5), .val (.int p6), .val (.int (2 : Int32)), .val (.int s0), .val (.int s1), .val (.int s2), .val (.int la), .val (.int lb), .val (.int lc), .val (.ref b374), .val (.ref b378), .val (.int (1 : Int32)), .val (.int (1 : Int32)), .val (.int (1 : Int32))] [(.long q2), (.int (1 : Int32)), (.ref b378)])) rfl (by rw [hml]; rfl) (argsL := [(.long q2)]) (rest := [(.int (1 : Int32)), (.ref b378)]) (lenOf pd_6 rfl) rfl (by show 2 * 0 + _ ≤ _; exact Nat.le_of_eq rfl) (hb hby at_183) (fun _ _ => ⟨rfl, e422, (by decide : 4 + 0 ≤ _), (by decide : 29 + 0 ≤ _)⟩)
            dsimp only [Pt.U, Pt.locs, Pt.cells, Pt.slots] at X424 l424 y424 z424 st424 hQ424
            subst l424 y424 z424
            obtain ⟨rfl, Nq424, Kq424⟩ := hQ424
            replace NF := Fr.app NF Nq424
            clear Nq424
            refine WP.st st424 ?_
            clear st424
            replace Kq424 := Kq424.trans (rfl : h422 = h422)
            show WP p.tables e below _ T424 (mkF m 186 #[.val (.long q1), .second, .val (.long q2), .second, .val (.long q3), .second, .val (.int p4), .val (.int p5), .val (.int p6), .val (.int (2 : Int32)), .val (.int s0), .val (.int s1), .val (.int s2), .val (.int la), .val (.int lb), .val (.int lc), .val (.ref b374), .val (.ref b378), .val (.int (1 : Int32)), .val (.int (1 : Int32)), .val (.int (1 : Int32))] [(.int (own_mic q2)), (.int (1 : Int32)), (.ref b378)])
            obtain ⟨cl425, Ar425, q425, S425, N425, H425, G425⟩ := V_b378
            have hin425 : ¬ ((1 : Int32) < 0 ∨ cl425.slots.size ≤ ((1 : Int32)).toNatClampNeg) := inb_of S425 ⟨by decide, by decide⟩
            obtain ⟨T426, h426, X426, e426, W426, st426⟩ := stI X424 hx hZ Kq424 Ar425 (j := (1 : Int32)) hin425 (g := (mkF m 186 #[.val (.long q1), .second, .val (.long q2), .second, .val (.long q3), .second, .val (.int p4), .val (.int p5), .val (.int p6), .val (.int (2 : Int32)), .val (.int s0), .val (.int s1), .val (.int s2), .val (.int la), .val (.int lb), .val (.int lc), .val (.ref b374), .val (.ref b378), .val (.int (1 : Int32)), .val (.int (1 : Int32)), .val (.int (1 : Int32))] [(.int (own_mic q2)), (.int (1 : Int32)), (.ref b378)])) rfl rfl (hb hby at_186)
            refine WP.st st426 ?_
            clear st426
            have Vn : Arv Z h426 b378 k378 .int (3 : Int32) [(.int (own_mic q1)), (.int (own_mic q2)), (.int (0 : Int32))] (.int (0 : Int32)) := Arv.set Ar425 q425 S425 N425 H425 G425 rfl W426 1 rfl (Nat.le_of_ble_eq_true rfl)
            replace E_b374 := E_b374.wr W426
            replace F_b374_highestSequence := F_b374_highestSequence.other W426 (Or.inl ne_b374_b378)
            replace F_b374_messages := F_b374_messages.other W426 (Or.inl ne_b374_b378)
            replace F_b374_delivered := F_b374_delivered.other W426 (Or.inl ne_b374_b378)
            replace F_b374_late := F_b374_late.other W426 (Or.inl ne_b374_b378)
            replace F_b374_outOfOrder := F_b374_outOfOrder.other W426 (Or.inl ne_b374_b378)
            replace F_b374_duplicated := F_b374_duplicated.other W426 (Or.inl ne_b374_b378)
            replace F_b374_lastDeliveryNanos := F_b374_lastDeliveryNanos.other W426 (Or.inl ne_b374_b378)
            replace F_b374_seen := F_b374_seen.other W426 (Or.inl ne_b374_b378)
            replace F_b374_latenciesMicros := F_b374_latenciesMicros.other W426 (Or.inl ne_b374_b378)
            replace V_ts_376 := V_ts_376.other W426 ne_ts_376_b378
            replace V_tl_376 := V_tl_376.other W426 ne_tl_376_b378
            replace Z0 := Nat.le_trans Z0 (Keep.of_wr W426).1
            replace V_b378 := Vn
            replace NF := Fr.snoc X426 NF g_b378
            clear W426 hin425 q425 S425 N425 H425 G425 Ar425
            show WP p.tables e below _ T426 (mkF m 187 #[.val (.long q1), .second, .val (.long q2), .second, .val (.long q3), .second, .val (.int p4), .val (.int p5), .val (.int p6), .val (.int (2 : Int32)), .val (.int s0), .val (.int s1), .val (.int s2), .val (.int la), .val (.int lb), .val (.int lc), .val (.ref b374), .val (.ref b378), .val (.int (1 : Int32)), .val (.int (1 : Int32)), .val (.int (1 : Int32))] [])
            have bk427 : ∀ t, Steps p.tables e below (T426.setTop (mkF m 190 #[.val (.long q1), .second, .val (.long q2), .second, .val (.long q3), .second, .val (.int p4), .val (.int p5), .val (.int p6), .val (.int (2 : Int32)), .val (.int s0), .val (.int s1), .val (.int s2), .val (.int la), .val (.int lb), .val (.int lc), .val (.ref b374), .val (.ref b378), .val (.int ((1 : Int32) + (1 : Int32))), .val (.int (1 : Int32)), .val (.int (1 : Int32))] [])) t → Steps p.tables e below (T426.setTop (mkF m 187 #[.val (.long q1), .second, .val (.long q2), .second, .val (.long q3), .second, .val (.int p4), .val (.int p5), .val (.int p6), .val (.int (2 : Int32)), .val (.int s0), .val (.int s1), .val (.int s2), .val (.int la), .val (.int lb), .val (.int lc), .val (.ref b374), .val (.ref b378), .val (.int (1 : Int32)), .val (.int (1 : Int32)), .val (.int (1 : Int32))] [])) t := fun t k => by
              refine XS.iinc X426.here hx rfl (hb hby at_187) rfl (l' := #[.val (.long q1), .second, .val (.long q2), .second, .val (.long q3), .second, .val (.int p4), .val (.int p5), .val (.int p6), .val (.int (2 : Int32)), .val (.int s0), .val (.int s1), .val (.int s2), .val (.int la), .val (.int lb), .val (.int lc), .val (.ref b374), .val (.ref b378), .val (.int ((1 : Int32) + (1 : Int32))), .val (.int (1 : Int32)), .val (.int (1 : Int32))]) rfl ?_
              exact k
            refine WP.st bk427 ?_
            clear bk427
            rw [show ((1 : Int32) + (1 : Int32)) = (2 : Int32) from by decide]
            show WP p.tables e below _ T426 (mkF m 190 #[.val (.long q1), .second, .val (.long q2), .second, .val (.long q3), .second, .val (.int p4), .val (.int p5), .val (.int p6), .val (.int (2 : Int32)), .val (.int s0), .val (.int s1), .val (.int s2), .val (.int la), .val (.int lb), .val (.int lc), .val (.ref b374), .val (.ref b378), .val (.int (2 : Int32)), .val (.int (1 : Int32)), .val (.int (1 : Int32))] [])
            have bk428 : ∀ t, Steps p.tables e below (T426.setTop (mkF m 262 #[.val (.long q1), .second, .val (.long q2), .second, .val (.long q3), .second, .val (.int p4), .val (.int p5), .val (.int p6), .val (.int (2 : Int32)), .val (.int s0), .val (.int s1), .val (.int s2), .val (.int la), .val (.int lb), .val (.int lc), .val (.ref b374), .val (.ref b378), .val (.int (2 : Int32)), .val (.int (1 : Int32)), .val (.int (1 : Int32))] [(.ref b374)])) t → Steps p.tables e below (T426.setTop (mkF m 190 #[.val (.long q1), .second, .val (.long q2), .second, .val (.long q3), .second, .val (.int p4), .val (.int p5), .val (.int p6), .val (.int (2 : Int32)), .val (.int s0), .val (.int s1), .val (.int s2), .val (.int la), .val (.int lb), .val (.int lc), .val (.ref b374), .val (.ref b378), .val (.int (2 : Int32)), .val (.int (1 : Int32)), .val (.int (1 : Int32))] [])) t := fun t k => by
              refine XS.iload X426.here hx rfl (hb hby at_190) rfl ?_
              refine XS.iconst X426.here hx rfl (hb hby at_192) ?_
              refine XS.icmpYes X426.here hx rfl (pc0 := 193) (pc' := 260) rfl (hb hby at_193) rfl (tlt (by decide : (2 : Int32) < (3 : Int32))).1 (by decide) (by decide) ?_
              refine XS.aload X426.here hx rfl (hb hby at_260) rfl rfl ?_
              exact k
            refine WP.st bk428 ?_
            clear bk428
            obtain ⟨cq429, kq429, q429a, q429b, q429c⟩ := isOf hZ e426 E_b374
            obtain ⟨_, _, ⟨T429, L429, k429, n429⟩, -, X429, ⟨Lc429, hQ429, l429, y429, z429⟩, st429⟩ := X426.virtualBack hx (y := (⟨"com/example/otayori/otayori/bench/PairTally", "latencies", "()[I"⟩ : MethodName)) (z := (⟨"com/example/otayori/otayori/bench/PairTally", "latencies", "()[I"⟩ : MethodName)) hown (mvT hZ (hw _ (List.mem_of_getElem? (i := 48) rfl))) (mvT hZ (hw _ (List.mem_of_getElem? (i := 49) rfl))) (notFace_of_selects (args := #[]) (mvT hZ (hw _ (List.mem_of_getElem? (i := 51) rfl)))) (mvT hZ (hw _ (List.mem_of_getElem? (i := 51) rfl))) (mvT hZ (hw _ (List.mem_of_getElem? (i := 50) rfl))) (by decide) (backOf (W := 0) (rm7k2 l Z a0 hw [] b374 tl_376 kl_376 d1_422 l1_422 (.int (own_lat q1)) (.int (own_lat q2)) (.int (0 : Int32)) (.int (0 : Int32)) (.int (0 : Int32)) (.int (0 : Int32)) (.int (0 : Int32)) (.int (0 : Int32)) (.int (0 : Int32)) (.int (0 : Int32)) (.int (0 : Int32)) (.int (0 : Int32)) (.int (0 : Int32)) (.int (0 : Int32)) (.int (0 : Int32)) (.int (0 : Int32)) h426 n0 Z0 F_b374_latenciesMicros F_b374_delivered F_b374_late V_tl_376 (hde1_422 : d1_422 + l1_422 = (2 : Int64))) hZ (hw _ (List.mem_of_getElem? (i := 52) rfl)) (hw _ (List.mem_of_getElem? (i := 2) rfl)) (by decide) (by decide)) q429a q429c (g := (mkF m 262 #[.val (.long q1), .second, .val (.long q2), .second, .val (.long q3), .second, .val (.int p4), .val (.int p5), .val (.int p6), .val (.int (2 : Int32)), .val (.int s0), .val (.int s1), .val (.int s2), .val (.int la), .val (.int lb), .val (.int lc), .val (.ref b374), .val (.ref b378), .val (.int (2 : Int32)), .val (.int (1 : Int32)), .val (.int (1 : Int32))] [(.ref b374)])) rfl (by rw [hml]; rfl) (Steps.refl _) (argsL := []) (rest := []) (lenOf pd_4 rfl) rfl (by show 2 * 0 + _ ≤ _; exact Nat.le_of_eq rfl) (hb hby at_262) (fun _ _ => ⟨rfl, e426, (by decide : 4 + 1 ≤ _), (by decide : 29 + 2 ≤ _)⟩)
            dsimp only [Pt.U, Pt.locs, Pt.cells, Pt.slots] at X429 l429 y429 z429 st429 hQ429
            subst l429 y429 z429
            obtain ⟨r_429, kr_429, rfl, Nq429, Kq429, szq_r_429, nA429_r_429⟩ := hQ429
            replace NF := Fr.app NF Nq429
            clear Nq429
            refine WP.tr st429 ?_
            clear st429
            obtain ⟨h429, e429⟩ : ∃ h, T429.heap = h := ⟨_, rfl⟩
            rw [e429] at Kq429 nA429_r_429
            have ne_b374_r_429 : b374 ≠ r_429 := Nat.ne_of_lt (Nat.lt_of_lt_of_le E_b374.lt szq_r_429)
            have ne_ts_376_r_429 : ts_376 ≠ r_429 := Nat.ne_of_lt (Nat.lt_of_lt_of_le V_ts_376.lt szq_r_429)
            have ne_tl_376_r_429 : tl_376 ≠ r_429 := Nat.ne_of_lt (Nat.lt_of_lt_of_le V_tl_376.lt szq_r_429)
            have ne_b378_r_429 : b378 ≠ r_429 := Nat.ne_of_lt (Nat.lt_of_lt_of_le V_b378.lt szq_r_429)
            replace E_b374 := E_b374.keep Kq429
            replace F_b374_highestSequence := F_b374_highestSequence.keep Kq429 (by exact nin0)
            replace F_b374_messages := F_b374_messages.keep Kq429 (by exact nin0)
            replace F_b374_delivered := F_b374_delivered.keep Kq429 (by exact nin0)
            replace F_b374_late := F_b374_late.keep Kq429 (by exact nin0)
            replace F_b374_outOfOrder := F_b374_outOfOrder.keep Kq429 (by exact nin0)
            replace F_b374_duplicated := F_b374_duplicated.keep Kq429 (by exact nin0)
            replace F_b374_lastDeliveryNanos := F_b374_lastDeliveryNanos.keep Kq429 (by exact nin0)
            replace F_b374_seen := F_b374_seen.keep Kq429 (by exact nin0)
            replace F_b374_latenciesMicros := F_b374_latenciesMicros.keep Kq429 (by exact nin0)
            replace V_ts_376 := V_ts_376.keep Kq429 (by exact nin0)
            replace V_tl_376 := V_tl_376.keep Kq429 (by exact nin0)
            replace V_b378 := V_b378.keep Kq429 (by exact nin0)
            replace Z0 := Nat.le_trans Z0 Kq429.1
            clear Kq429
            have V_r_429 := nA429_r_429
            clear nA429_r_429
            show WP p.tables e below _ T429 (mkF m 265 #[.val (.long q1), .second, .val (.long q2), .second, .val (.long q3), .second, .val (.int p4), .val (.int p5), .val (.int p6), .val (.int (2 : Int32)), .val (.int s0), .val (.int s1), .val (.int s2), .val (.int la), .val (.int lb), .val (.int lc), .val (.ref b374), .val (.ref b378), .val (.int (2 : Int32)), .val (.int (1 : Int32)), .val (.int (1 : Int32))] [(.ref r_429)])
            have bk430 : ∀ t, Steps p.tables e below (T429.setTop (mkF m 269 #[.val (.long q1), .second, .val (.long q2), .second, .val (.long q3), .second, .val (.int p4), .val (.int p5), .val (.int p6), .val (.int (2 : Int32)), .val (.int s0), .val (.int s1), .val (.int s2), .val (.int la), .val (.int lb), .val (.int lc), .val (.ref b374), .val (.ref b378), .val (.int (2 : Int32)), .val (.ref r_429), .val (.int (1 : Int32))] [(.ref r_429)])) t → Steps p.tables e below (T429.setTop (mkF m 265 #[.val (.long q1), .second, .val (.long q2), .second, .val (.long q3), .second, .val (.int p4), .val (.int p5), .val (.int p6), .val (.int (2 : Int32)), .val (.int s0), .val (.int s1), .val (.int s2), .val (.int la), .val (.int lb), .val (.int lc), .val (.ref b374), .val (.ref b378), .val (.int (2 : Int32)), .val (.int (1 : Int32)), .val (.int (1 : Int32))] [(.ref r_429)])) t := fun t k => by
              refine XS.astore X429.here hx rfl (hb hby at_265) rfl rfl (l' := #[.val (.long q1), .second, .val (.long q2), .second, .val (.long q3), .second, .val (.int p4), .val (.int p5), .val (.int p6), .val (.int (2 : Int32)), .val (.int s0), .val (.int s1), .val (.int s2), .val (.int la), .val (.int lb), .val (.int lc), .val (.ref b374), .val (.ref b378), .val (.int (2 : Int32)), .val (.ref r_429), .val (.int (1 : Int32))]) rfl ?_
              refine XS.aload X429.here hx rfl (hb hby at_267) rfl rfl ?_
              exact k
            refine WP.st bk430 ?_
            clear bk430
            obtain ⟨cl431, Ar431, len431⟩ := V_r_429.len
            have bk432 : ∀ t, Steps p.tables e below (T429.setTop (mkF m 286 #[.val (.long q1), .second, .val (.long q2), .second, .val (.long q3), .second, .val (.int p4), .val (.int p5), .val (.int p6), .val (.int (2 : Int32)), .val (.int s0), .val (.int s1), .val (.int s2), .val (.int la), .val (.int lb), .val (.int lc), .val (.ref b374), .val (.ref b378), .val (.int (2 : Int32)), .val (.ref r_429), .val (.int (1 : Int32))] [(.int (0 : Int32)), (.ref r_429)])) t → Steps p.tables e below (T429.setTop (mkF m 269 #[.val (.long q1), .second, .val (.long q2), .second, .val (.long q3), .second, .val (.int p4), .val (.int p5), .val (.int p6), .val (.int (2 : Int32)), .val (.int s0), .val (.int s1), .val (.int s2), .val (.int la), .val (.int lb), .val (.int lc), .val (.ref b374), .val (.ref b378), .val (.int (2 : Int32)), .val (.ref r_429), .val (.int (1 : Int32))] [(.ref r_429)])) t := fun t k => by
              refine X429.arraylength hx (by rw [e429]; exact Ar431.1) (State.isArrayOf_alike hZ.alike Ar431.2.1) (g := (mkF m 269 #[.val (.long q1), .second, .val (.long q2), .second, .val (.long q3), .second, .val (.int p4), .val (.int p5), .val (.int p6), .val (.int (2 : Int32)), .val (.int s0), .val (.int s1), .val (.int s2), .val (.int la), .val (.int lb), .val (.int lc), .val (.ref b374), .val (.ref b378), .val (.int (2 : Int32)), .val (.ref r_429), .val (.int (1 : Int32))] [(.ref r_429)])) rfl rfl (hb hby at_269) _ ?_
              rw [len431]
              refine XS.iload X429.here hx rfl (hb hby at_270) rfl ?_
              refine XS.icmpYes X429.here hx rfl (pc0 := 272) (pc' := 277) rfl (hb hby at_272) rfl (teq (by decide : (2 : Int32) = (2 : Int32))).1 (by decide) (by decide) ?_
              refine XS.iload X429.here hx rfl (hb hby at_277) rfl ?_
              show Steps p.tables e below (T429.setTop (mkF m 279 #[.val (.long q1), .second, .val (.long q2), .second, .val (.long q3), .second, .val (.int p4), .val (.int p5), .val (.int p6), .val (.int (2 : Int32)), .val (.int s0), .val (.int s1), .val (.int s2), .val (.int la), .val (.int lb), .val (.int lc), .val (.ref b374), .val (.ref b378), .val (.int (2 : Int32)), .val (.ref r_429), .val (.int (1 : Int32))] [(.int (2 : Int32))])) t
              refine XS.iconst X429.here hx rfl (hb hby at_279) ?_
              refine XS.icmpNo X429.here hx rfl (hb hby at_280) rfl (flt (by decide : ¬ ((2 : Int32) < (1 : Int32)))).1 ?_
              refine XS.aload X429.here hx rfl (hb hby at_283) rfl rfl ?_
              refine XS.iconst X429.here hx rfl (hb hby at_285) ?_
              exact k
            refine WP.st bk432 ?_
            clear bk432
            obtain ⟨cl433, Ar433, hin433, hat433, -⟩ := V_r_429.rd (j := (0 : Int32)) ⟨by decide, by decide⟩
            replace hat433 : cl433.slots[((0 : Int32)).toNatClampNeg]? = some (.int (own_lat q1)) := hat433
            have bk434 : ∀ t, Steps p.tables e below (T429.setTop (mkF m 290 #[.val (.long q1), .second, .val (.long q2), .second, .val (.long q3), .second, .val (.int p4), .val (.int p5), .val (.int p6), .val (.int (2 : Int32)), .val (.int s0), .val (.int s1), .val (.int s2), .val (.int la), .val (.int lb), .val (.int lc), .val (.ref b374), .val (.ref b378), .val (.int (2 : Int32)), .val (.ref r_429), .val (.int (1 : Int32))] [(.int (0 : Int32)), (.ref b378), (.int (own_lat q1))])) t → Steps p.tables e below (T429.setTop (mkF m 286 #[.val (.long q1), .second, .val (.long q2), .second, .val (.long q3), .second, .val (.int p4), .val (.int p5), .val (.int p6), .val (.int (2 : Int32)), .val (.int s0), .val (.int s1), .val (.int s2), .val (.int la), .val (.int lb), .val (.int lc), .val (.ref b374), .val (.ref b378), .val (.int (2 : Int32)), .val (.ref r_429), .val (.int (1 : Int32))] [(.int (0 : Int32)), (.ref r_429)])) t := fun t k => by
              refine X429.iaload hx (j := (0 : Int32)) (v := (.int (own_lat q1))) (by rw [e429]; exact Ar433.1) (State.isArrayOf_alike hZ.alike Ar433.2.1) Ar433.2.2 hin433 hat433 (g := (mkF m 286 #[.val (.long q1), .second, .val (.long q2), .second, .val (.long q3), .second, .val (.int p4), .val (.int p5), .val (.int p6), .val (.int (2 : Int32)), .val (.int s0), .val (.int s1), .val (.int s2), .val (.int la), .val (.int lb), .val (.int lc), .val (.ref b374), .val (.ref b378), .val (.int (2 : Int32)), .val (.ref r_429), .val (.int (1 : Int32))] [(.int (0 : Int32)), (.ref r_429)])) rfl rfl (hb hby at_286) _ ?_
              refine XS.aload X429.here hx rfl (hb hby at_287) rfl rfl ?_
              refine XS.iconst X429.here hx rfl (hb hby at_289) ?_
              exact k
            refine WP.st bk434 ?_
            clear bk434
            obtain ⟨cl435, Ar435, hin435, hat435, -⟩ := V_b378.rd (j := (0 : Int32)) ⟨by decide, by decide⟩
            replace hat435 : cl435.slots[((0 : Int32)).toNatClampNeg]? = some (.int (own_mic q1)) := hat435
            have bk436 : ∀ t, Steps p.tables e below (T429.setTop (mkF m 305 #[.val (.long q1), .second, .val (.long q2), .second, .val (.long q3), .second, .val (.int p4), .val (.int p5), .val (.int p6), .val (.int (2 : Int32)), .val (.int s0), .val (.int s1), .val (.int s2), .val (.int la), .val (.int lb), .val (.int lc), .val (.ref b374), .val (.ref b378), .val (.int (2 : Int32)), .val (.ref r_429), .val (.int (1 : Int32))] [(.int (1 : Int32)), (.ref r_429)])) t → Steps p.tables e below (T429.setTop (mkF m 290 #[.val (.long q1), .second, .val (.long q2), .second, .val (.long q3), .second, .val (.int p4), .val (.int p5), .val (.int p6), .val (.int (2 : Int32)), .val (.int s0), .val (.int s1), .val (.int s2), .val (.int la), .val (.int lb), .val (.int lc), .val (.ref b374), .val (.ref b378), .val (.int (2 : Int32)), .val (.ref r_429), .val (.int (1 : Int32))] [(.int (0 : Int32)), (.ref b378), (.int (own_lat q1))])) t := fun t k => by
              refine X429.iaload hx (j := (0 : Int32)) (v := (.int (own_mic q1))) (by rw [e429]; exact Ar435.1) (State.isArrayOf_alike hZ.alike Ar435.2.1) Ar435.2.2 hin435 hat435 (g := (mkF m 290 #[.val (.long q1), .second, .val (.long q2), .second, .val (.long q3), .second, .val (.int p4), .val (.int p5), .val (.int p6), .val (.int (2 : Int32)), .val (.int s0), .val (.int s1), .val (.int s2), .val (.int la), .val (.int lb), .val (.int lc), .val (.ref b374), .val (.ref b378), .val (.int (2 : Int32)), .val (.ref r_429), .val (.int (1 : Int32))] [(.int (0 : Int32)), (.ref b378), (.int (own_lat q1))])) rfl rfl (hb hby at_290) _ ?_
              refine XS.icmpYes X429.here hx rfl (pc0 := 291) (pc' := 296) rfl (hb hby at_291) rfl (teq (own_lm q1)).1 (by decide) (by decide) ?_
              refine XS.iload X429.here hx rfl (hb hby at_296) rfl ?_
              refine XS.iconst X429.here hx rfl (hb hby at_298) ?_
              show Steps p.tables e below (T429.setTop (mkF m 299 #[.val (.long q1), .second, .val (.long q2), .second, .val (.long q3), .second, .val (.int p4), .val (.int p5), .val (.int p6), .val (.int (2 : Int32)), .val (.int s0), .val (.int s1), .val (.int s2), .val (.int la), .val (.int lb), .val (.int lc), .val (.ref b374), .val (.ref b378), .val (.int (2 : Int32)), .val (.ref r_429), .val (.int (1 : Int32))] [(.int (2 : Int32)), (.int (2 : Int32))])) t
              refine XS.icmpNo X429.here hx rfl (hb hby at_299) rfl (flt (by decide : ¬ ((2 : Int32) < (2 : Int32)))).1 ?_
              refine XS.aload X429.here hx rfl (hb hby at_302) rfl rfl ?_
              refine XS.iconst X429.here hx rfl (hb hby at_304) ?_
              exact k
            refine WP.st bk436 ?_
            clear bk436
            obtain ⟨cl437, Ar437, hin437, hat437, -⟩ := V_r_429.rd (j := (1 : Int32)) ⟨by decide, by decide⟩
            replace hat437 : cl437.slots[((1 : Int32)).toNatClampNeg]? = some (.int (own_lat q2)) := hat437
            have bk438 : ∀ t, Steps p.tables e below (T429.setTop (mkF m 309 #[.val (.long q1), .second, .val (.long q2), .second, .val (.long q3), .second, .val (.int p4), .val (.int p5), .val (.int p6), .val (.int (2 : Int32)), .val (.int s0), .val (.int s1), .val (.int s2), .val (.int la), .val (.int lb), .val (.int lc), .val (.ref b374), .val (.ref b378), .val (.int (2 : Int32)), .val (.ref r_429), .val (.int (1 : Int32))] [(.int (1 : Int32)), (.ref b378), (.int (own_lat q2))])) t → Steps p.tables e below (T429.setTop (mkF m 305 #[.val (.long q1), .second, .val (.long q2), .second, .val (.long q3), .second, .val (.int p4), .val (.int p5), .val (.int p6), .val (.int (2 : Int32)), .val (.int s0), .val (.int s1), .val (.int s2), .val (.int la), .val (.int lb), .val (.int lc), .val (.ref b374), .val (.ref b378), .val (.int (2 : Int32)), .val (.ref r_429), .val (.int (1 : Int32))] [(.int (1 : Int32)), (.ref r_429)])) t := fun t k => by
              refine X429.iaload hx (j := (1 : Int32)) (v := (.int (own_lat q2))) (by rw [e429]; exact Ar437.1) (State.isArrayOf_alike hZ.alike Ar437.2.1) Ar437.2.2 hin437 hat437 (g := (mkF m 305 #[.val (.long q1), .second, .val (.long q2), .second, .val (.long q3), .second, .val (.int p4), .val (.int p5), .val (.int p6), .val (.int (2 : Int32)), .val (.int s0), .val (.int s1), .val (.int s2), .val (.int la), .val (.int lb), .val (.int lc), .val (.ref b374), .val (.ref b378), .val (.int (2 : Int32)), .val (.ref r_429), .val (.int (1 : Int32))] [(.int (1 : Int32)), (.ref r_429)])) rfl rfl (hb hby at_305) _ ?_
              refine XS.aload X429.here hx rfl (hb hby at_306) rfl rfl ?_
              refine XS.iconst X429.here hx rfl (hb hby at_308) ?_
              exact k
            refine WP.st bk438 ?_
            clear bk438
            obtain ⟨cl439, Ar439, hin439, hat439, -⟩ := V_b378.rd (j := (1 : Int32)) ⟨by decide, by decide⟩
            replace hat439 : cl439.slots[((1 : Int32)).toNatClampNeg]? = some (.int (own_mic q2)) := hat439
            have bk440 : ∀ t, Steps p.tables e below (T429.setTop (mkF m 335 #[.val (.long q1), .second, .val (.long q2), .second, .val (.long q3), .second, .val (.int p4), .val (.int p5), .val (.int p6), .val (.int (2 : Int32)), .val (.int s0), .val (.int s1), .val (.int s2), .val (.int la), .val (.int lb), .val (.int lc), .val (.ref b374), .val (.ref b378), .val (.int (2 : Int32)), .val (.ref r_429), .val (.int (1 : Int32))] [(.int (1 : Int32))])) t → Steps p.tables e below (T429.setTop (mkF m 309 #[.val (.long q1), .second, .val (.long q2), .second, .val (.long q3), .second, .val (.int p4), .val (.int p5), .val (.int p6), .val (.int (2 : Int32)), .val (.int s0), .val (.int s1), .val (.int s2), .val (.int la), .val (.int lb), .val (.int lc), .val (.ref b374), .val (.ref b378), .val (.int (2 : Int32)), .val (.ref r_429), .val (.int (1 : Int32))] [(.int (1 : Int32)), (.ref b378), (.int (own_lat q2))])) t := fun t k => by
              refine X429.iaload hx (j := (1 : Int32)) (v := (.int (own_mic q2))) (by rw [e429]; exact Ar439.1) (State.isArrayOf_alike hZ.alike Ar439.2.1) Ar439.2.2 hin439 hat439 (g := (mkF m 309 #[.val (.long q1), .second, .val (.long q2), .second, .val (.long q3), .second, .val (.int p4), .val (.int p5), .val (.int p6), .val (.int (2 : Int32)), .val (.int s0), .val (.int s1), .val (.int s2), .val (.int la), .val (.int lb), .val (.int lc), .val (.ref b374), .val (.ref b378), .val (.int (2 : Int32)), .val (.ref r_429), .val (.int (1 : Int32))] [(.int (1 : Int32)), (.ref b378), (.int (own_lat q2))])) rfl rfl (hb hby at_309) _ ?_
              refine XS.icmpYes X429.here hx rfl (pc0 := 310) (pc' := 315) rfl (hb hby at_310) rfl (teq (own_lm q2)).1 (by decide) (by decide) ?_
              refine XS.iload X429.here hx rfl (hb hby at_315) rfl ?_
              refine XS.iconst X429.here hx rfl (hb hby at_317) ?_
              show Steps p.tables e below (T429.setTop (mkF m 318 #[.val (.long q1), .second, .val (.long q2), .second, .val (.long q3), .second, .val (.int p4), .val (.int p5), .val (.int p6), .val (.int (2 : Int32)), .val (.int s0), .val (.int s1), .val (.int s2), .val (.int la), .val (.int lb), .val (.int lc), .val (.ref b374), .val (.ref b378), .val (.int (2 : Int32)), .val (.ref r_429), .val (.int (1 : Int32))] [(.int (3 : Int32)), (.int (2 : Int32))])) t
              refine XS.icmpYes X429.here hx rfl (pc0 := 318) (pc' := 334) rfl (hb hby at_318) rfl (tlt (by decide : (2 : Int32) < (3 : Int32))).1 (by decide) (by decide) ?_
              refine XS.iconst X429.here hx rfl (hb hby at_334) ?_
              exact k
            refine WP.st bk440 ?_
            clear bk440
            subst hG
            obtain ⟨fs, hr, hrun, hended, hW, hsame⟩ := X429.leave (v := some (.int (1 : Int32))) (fun h => by rw [Bd.returns] at h; cases h)
            refine WP.fin ⟨_, _, ?_, hrun, hended, _, _, rfl, ?_, ⟨_, rfl⟩, hW, hsame.mono (by decide) (by decide)⟩
            · exact retN X429 hx (t := .boolean) Bd.returns (by simp) (hb hby at_335) hr
            · show Q0 Z q1 q2 q3 p4 p5 p6 h0 n0 _ T429.heap _
              rw [e429]
              exact ⟨rfl, NF⟩
        · skip
          show WP p.tables e below _ T378 (mkF m 93 #[.val (.long q1), .second, .val (.long q2), .second, .val (.long q3), .second, .val (.int p4), .val (.int p5), .val (.int p6), .val (.int (3 : Int32)), .val (.int s0), .val (.int s1), .val (.int s2), .val (.int la), .val (.int lb), .val (.int lc), .val (.ref b374), .val (.ref b378), .val (.int (0 : Int32)), .unset, .unset] [])
          have bk441 : ∀ t, Steps p.tables e below (T378.setTop (mkF m 107 #[.val (.long q1), .second, .val (.long q2), .second, .val (.long q3), .second, .val (.int p4), .val (.int p5), .val (.int p6), .val (.int (3 : Int32)), .val (.int s0), .val (.int s1), .val (.int s2), .val (.int la), .val (.int lb), .val (.int lc), .val (.ref b374), .val (.ref b378), .val (.int (0 : Int32)), .unset, .unset] [(.int la), (.long (0 : Int64)), (.long q1), (.int s0), (.ref b374)])) t → Steps p.tables e below (T378.setTop (mkF m 93 #[.val (.long q1), .second, .val (.long q2), .second, .val (.long q3), .second, .val (.int p4), .val (.int p5), .val (.int p6), .val (.int (3 : Int32)), .val (.int s0), .val (.int s1), .val (.int s2), .val (.int la), .val (.int lb), .val (.int lc), .val (.ref b374), .val (.ref b378), .val (.int (0 : Int32)), .unset, .unset] [])) t := fun t k => by
            refine XS.iload X378.here hx rfl (hb hby at_93) rfl ?_
            refine XS.iconst X378.here hx rfl (hb hby at_95) ?_
            refine XS.icmpNo X378.here hx rfl (hb hby at_96) rfl (flt (by decide : ¬ ((3 : Int32) < (1 : Int32)))).1 ?_
            refine XS.aload X378.here hx rfl (hb hby at_99) rfl rfl ?_
            show Steps p.tables e below (T378.setTop (mkF m 101 #[.val (.long q1), .second, .val (.long q2), .second, .val (.long q3), .second, .val (.int p4), .val (.int p5), .val (.int p6), .val (.int (3 : Int32)), .val (.int s0), .val (.int s1), .val (.int s2), .val (.int la), .val (.int lb), .val (.int lc), .val (.ref b374), .val (.ref b378), .val (.int (0 : Int32)), .unset, .unset] [(.ref b374)])) t
            refine XS.iload X378.here hx rfl (hb hby at_101) rfl ?_
            refine XS.lloadN X378.here hx rfl (hb hby at_103) rfl ?_
            refine XS.lconst X378.here hx rfl (hb hby at_104) ?_
            refine XS.iload X378.here hx rfl (hb hby at_105) rfl ?_
            exact k
          refine WP.st bk441 ?_
          clear bk441
          obtain ⟨cq442, kq442, q442a, q442b, q442c⟩ := isOf hZ e378 E_b374
          obtain ⟨_, _, ⟨T442, L442, k442, n442⟩, -, X442, ⟨Lc442, hQ442, l442, y442, z442⟩, st442⟩ := X378.virtualBack hx (y := (⟨"com/example/otayori/otayori/bench/PairTally", "record", "(IJJZ)Z"⟩ : MethodName)) (z := (⟨"com/example/otayori/otayori/bench/PairTally", "record", "(IJJZ)Z"⟩ : MethodName)) hown (mvT hZ (hw _ (List.mem_of_getElem? (i := 19) rfl))) (mvT hZ (hw _ (List.mem_of_getElem? (i := 20) rfl))) (notFace_of_selects (args := #[]) (mvT hZ (hw _ (List.mem_of_getElem? (i := 22) rfl)))) (mvT hZ (hw _ (List.mem_of_getElem? (i := 22) rfl))) (mvT hZ (hw _ (List.mem_of_getElem? (i := 21) rfl))) (by decide) (backOf (W := 0) (rm3f0 l Z a0 hw [] b374 s0 q1 (0 : Int64) la (-1 : Int32) (8 : Int32) (0 : Int64) (0 : Int64) (0 : Int64) (0 : Int64) (0 : Int64) ts_376 ks_376 tl_376 kl_376 (0 : Int64) (.int (0 : Int32)) (.int (0 : Int32)) (.int (0 : Int32)) (.int (0 : Int32)) (.int (0 : Int32)) (.int (0 : Int32)) (.int (0 : Int32)) (.int (0 : Int32)) (.int (0 : Int32)) (.int (0 : Int32)) (.int (0 : Int32)) (.int (0 : Int32)) (.int (0 : Int32)) (.int (0 : Int32)) (.int (0 : Int32)) (.int (0 : Int32)) h378 n0 Z0 E_b374 g_b374 F_b374_highestSequence F_b374_messages F_b374_delivered F_b374_late F_b374_outOfOrder F_b374_duplicated F_b374_lastDeliveryNanos F_b374_seen F_b374_latenciesMicros V_ts_376 V_tl_376 g_ts_376 g_tl_376 ne_b374_ts_376 ne_b374_tl_376 ne_tl_376_ts_376 (hs0 : own_small s0) ((lw_eq _ _).2 (own_b0 _)) (by decide : (0 : Int64) + (0 : Int64) = (0 : Int64))) hZ (hw _ (List.mem_of_getElem? (i := 23) rfl)) (hw _ (List.mem_of_getElem? (i := 2) rfl)) (by decide) (by decide)) q442a q442c (g := (mkF m 107 #[.val (.long q1), .second, .val (.long q2), .second, .val (.long q3), .second, .val (.int p4), .val (.int p5), .val (.int p6), .val (.int (3 : Int32)), .val (.int s0), .val (.int s1), .val (.int s2), .val (.int la), .val (.int lb), .val (.int lc), .val (.ref b374), .val (.ref b378), .val (.int (0 : Int32)), .unset, .unset] [(.int la), (.long (0 : Int64)), (.long q1), (.int s0), (.ref b374)])) rfl (by rw [hml]; rfl) (Steps.refl _) (argsL := [(.int s0), (.long q1), (.long (0 : Int64)), (.int la)]) (rest := []) (lenOf pd_5 rfl) rfl (by show 2 * 0 + _ ≤ _; exact Nat.le_of_eq rfl) (hb hby at_107) (fun _ _ => ⟨rfl, e378, (by decide : 4 + 0 ≤ _), (by decide : 29 + 0 ≤ _)⟩)
          dsimp only [Pt.U, Pt.locs, Pt.cells, Pt.slots] at X442 l442 y442 z442 st442 hQ442
          subst l442 y442 z442
          obtain ⟨d1_442, l1_442, s1_442, o1_442, n1_442, rfl, Nq442, Kq442, nF442_b374_highestSequence, nF442_b374_messages, nF442_b374_delivered, nF442_b374_late, nF442_b374_outOfOrder, nF442_b374_duplicated, nF442_b374_lastDeliveryNanos, nF442_b374_seen, nF442_b374_latenciesMicros, nA442_ts_376, nA442_tl_376, hde1_442⟩ := hQ442
          replace NF := Fr.app NF Nq442
          clear Nq442
          refine WP.tr st442 ?_
          clear st442
          obtain ⟨h442, e442⟩ : ∃ h, T442.heap = h := ⟨_, rfl⟩
          rw [e442] at Kq442 nF442_b374_highestSequence nF442_b374_messages nF442_b374_delivered nF442_b374_late nF442_b374_outOfOrder nF442_b374_duplicated nF442_b374_lastDeliveryNanos nF442_b374_seen nF442_b374_latenciesMicros nA442_ts_376 nA442_tl_376
          replace E_b374 := E_b374.keep Kq442
          clear F_b374_highestSequence
          clear F_b374_latenciesMicros
          clear F_b374_messages
          clear F_b374_seen
          clear F_b374_delivered
          clear F_b374_late
          clear F_b374_outOfOrder
          clear F_b374_duplicated
          clear F_b374_lastDeliveryNanos
          clear V_tl_376
          clear V_ts_376
          replace V_b378 := V_b378.keep Kq442 (by exact ninS (Ne.symm ne_b374_b378) (ninS (Ne.symm ne_ts_376_b378) (ninS (Ne.symm ne_tl_376_b378) (nin0))))
          replace Z0 := Nat.le_trans Z0 Kq442.1
          clear Kq442
          have F_b374_highestSequence := nF442_b374_highestSequence
          clear nF442_b374_highestSequence
          have F_b374_messages := nF442_b374_messages
          clear nF442_b374_messages
          have F_b374_delivered := nF442_b374_delivered
          clear nF442_b374_delivered
          have F_b374_late := nF442_b374_late
          clear nF442_b374_late
          have F_b374_outOfOrder := nF442_b374_outOfOrder
          clear nF442_b374_outOfOrder
          have F_b374_duplicated := nF442_b374_duplicated
          clear nF442_b374_duplicated
          have F_b374_lastDeliveryNanos := nF442_b374_lastDeliveryNanos
          clear nF442_b374_lastDeliveryNanos
          have F_b374_seen := nF442_b374_seen
          clear nF442_b374_seen
          have F_b374_latenciesMicros := nF442_b374_latenciesMicros
          clear nF442_b374_latenciesMicros
          have V_ts_376 := nA442_ts_376
          clear nA442_ts_376
          have V_tl_376 := nA442_tl_376
          clear nA442_tl_376
          show WP p.tables e below _ T442 (mkF m 110 #[.val (.long q1), .second, .val (.long q2), .second, .val (.long q3), .second, .val (.int p4), .val (.int p5), .val (.int p6), .val (.int (3 : Int32)), .val (.int s0), .val (.int s1), .val (.int s2), .val (.int la), .val (.int lb), .val (.int lc), .val (.ref b374), .val (.ref b378), .val (.int (0 : Int32)), .unset, .unset] [(.int (1 : Int32))])
          have bk443 : ∀ t, Steps p.tables e below (T442.setTop (mkF m 124 #[.val (.long q1), .second, .val (.long q2), .second, .val (.long q3), .second, .val (.int p4), .val (.int p5), .val (.int p6), .val (.int (3 : Int32)), .val (.int s0), .val (.int s1), .val (.int s2), .val (.int la), .val (.int lb), .val (.int lc), .val (.ref b374), .val (.ref b378), .val (.int (0 : Int32)), .val (.int (1 : Int32)), .unset] [(.long q1), (.int (0 : Int32)), (.ref b378)])) t → Steps p.tables e below (T442.setTop (mkF m 110 #[.val (.long q1), .second, .val (.long q2), .second, .val (.long q3), .second, .val (.int p4), .val (.int p5), .val (.int p6), .val (.int (3 : Int32)), .val (.int s0), .val (.int s1), .val (.int s2), .val (.int la), .val (.int lb), .val (.int lc), .val (.ref b374), .val (.ref b378), .val (.int (0 : Int32)), .unset, .unset] [(.int (1 : Int32))])) t := fun t k => by
            refine XS.istore X442.here hx rfl (hb hby at_110) rfl (l' := #[.val (.long q1), .second, .val (.long q2), .second, .val (.long q3), .second, .val (.int p4), .val (.int p5), .val (.int p6), .val (.int (3 : Int32)), .val (.int s0), .val (.int s1), .val (.int s2), .val (.int la), .val (.int lb), .val (.int lc), .val (.ref b374), .val (.ref b378), .val (.int (0 : Int32)), .val (.int (1 : Int32)), .unset]) rfl ?_
            refine XS.iload X442.here hx rfl (hb hby at_112) rfl ?_
            refine XS.ifYes X442.here hx rfl (pc0 := 114) (pc' := 119) rfl (hb hby at_114) rfl ((if0 _ _).trans (feq (by decide : ¬ ((1 : Int32) = (0 : Int32)))).2) (by decide) (by decide) ?_
            refine XS.aload X442.here hx rfl (hb hby at_119) rfl rfl ?_
            show Steps p.tables e below (T442.setTop (mkF m 121 #[.val (.long q1), .second, .val (.long q2), .second, .val (.long q3), .second, .val (.int p4), .val (.int p5), .val (.int p6), .val (.int (3 : Int32)), .val (.int s0), .val (.int s1), .val (.int s2), .val (.int la), .val (.int lb), .val (.int lc), .val (.ref b374), .val (.ref b378), .val (.int (0 : Int32)), .val (.int (1 : Int32)), .unset] [(.ref b378)])) t
            refine XS.iload X442.here hx rfl (hb hby at_121) rfl ?_
            refine XS.lloadN X442.here hx rfl (hb hby at_123) rfl ?_
            exact k
          refine WP.st bk443 ?_
          clear bk443
          obtain ⟨_, _, ⟨T444, L444, k444, n444⟩, -, X444, ⟨Lc444, hQ444, l444, y444, z444⟩, st444⟩ := Jvm.LawKit.callS X442 hx (y := (⟨"com/example/otayori/otayori/bench/PairTallyLatenciesPinLaw", "micros", "(J)I"⟩ : MethodName)) hown (mvT hZ (hw _ (List.mem_of_getElem? (i := 37) rfl))) (mvT hZ (hw _ (List.mem_of_getElem? (i := 38) rfl))) (mvT hZ (hw _ (List.mem_of_getElem? (i := 39) rfl))) (mvT hZ (hw _ (List.mem_of_getElem? (i := 40) rfl))) (by decide) (backOf (W := 2) (rm6 l Z a0 hw [] q1 h442 n0 Z0 ) hZ (hw _ (List.mem_of_getElem? (i := 40) rfl)) (hw _ (List.mem_of_getElem? (i := 39) rfl)) (by decide) (by decide)) (g := (mkF m 124 #[.val (.long q1), .second, .val (.long q2), .second, .val (.long q3), .second, .val (.int p4), .val (.int p5), .val (.int p6), .val (.int (3 : Int32)), .val (.int s0), .val (.int s1), .val (.int s2), .val (.int la), .val (.int lb), .val (.int lc), .val (.ref b374), .val (.ref b378), .val (.int (0 : Int32)), .val (.int (1 : Int32)), .unset] [(.long q1), (.int (0 : Int32)), (.ref b378)])) rfl (by rw [hml]; rfl) (argsL := [(.long q1)]) (rest := [(.int (0 : Int32)), (.ref b378)]) (lenOf pd_6 rfl) rfl (by show 2 * 0 + _ ≤ _; exact Nat.le_of_eq rfl) (hb hby at_124) (fun _ _ => ⟨rfl, e442, (by decide : 4 + 0 ≤ _), (by decide : 29 + 0 ≤ _)⟩)
          dsimp only [Pt.U, Pt.locs, Pt.cells, Pt.slots] at X444 l444 y444 z444 st444 hQ444
          subst l444 y444 z444
          obtain ⟨rfl, Nq444, Kq444⟩ := hQ444
          replace NF := Fr.app NF Nq444
          clear Nq444
          refine WP.st st444 ?_
          clear st444
          replace Kq444 := Kq444.trans (rfl : h442 = h442)
          show WP p.tables e below _ T444 (mkF m 127 #[.val (.long q1), .second, .val (.long q2), .second, .val (.long q3), .second, .val (.int p4), .val (.int p5), .val (.int p6), .val (.int (3 : Int32)), .val (.int s0), .val (.int s1), .val (.int s2), .val (.int la), .val (.int lb), .val (.int lc), .val (.ref b374), .val (.ref b378), .val (.int (0 : Int32)), .val (.int (1 : Int32)), .unset] [(.int (own_mic q1)), (.int (0 : Int32)), (.ref b378)])
          obtain ⟨cl445, Ar445, q445, S445, N445, H445, G445⟩ := V_b378
          have hin445 : ¬ ((0 : Int32) < 0 ∨ cl445.slots.size ≤ ((0 : Int32)).toNatClampNeg) := inb_of S445 ⟨by decide, by decide⟩
          obtain ⟨T446, h446, X446, e446, W446, st446⟩ := stI X444 hx hZ Kq444 Ar445 (j := (0 : Int32)) hin445 (g := (mkF m 127 #[.val (.long q1), .second, .val (.long q2), .second, .val (.long q3), .second, .val (.int p4), .val (.int p5), .val (.int p6), .val (.int (3 : Int32)), .val (.int s0), .val (.int s1), .val (.int s2), .val (.int la), .val (.int lb), .val (.int lc), .val (.ref b374), .val (.ref b378), .val (.int (0 : Int32)), .val (.int (1 : Int32)), .unset] [(.int (own_mic q1)), (.int (0 : Int32)), (.ref b378)])) rfl rfl (hb hby at_127)
          refine WP.st st446 ?_
          clear st446
          have Vn : Arv Z h446 b378 k378 .int (3 : Int32) [(.int (own_mic q1)), (.int (0 : Int32)), (.int (0 : Int32))] (.int (0 : Int32)) := Arv.set Ar445 q445 S445 N445 H445 G445 rfl W446 0 rfl (Nat.le_of_ble_eq_true rfl)
          replace E_b374 := E_b374.wr W446
          replace F_b374_highestSequence := F_b374_highestSequence.other W446 (Or.inl ne_b374_b378)
          replace F_b374_messages := F_b374_messages.other W446 (Or.inl ne_b374_b378)
          replace F_b374_delivered := F_b374_delivered.other W446 (Or.inl ne_b374_b378)
          replace F_b374_late := F_b374_late.other W446 (Or.inl ne_b374_b378)
          replace F_b374_outOfOrder := F_b374_outOfOrder.other W446 (Or.inl ne_b374_b378)
          replace F_b374_duplicated := F_b374_duplicated.other W446 (Or.inl ne_b374_b378)
          replace F_b374_lastDeliveryNanos := F_b374_lastDeliveryNanos.other W446 (Or.inl ne_b374_b378)
          replace F_b374_seen := F_b374_seen.other W446 (Or.inl ne_b374_b378)
          replace F_b374_latenciesMicros := F_b374_latenciesMicros.other W446 (Or.inl ne_b374_b378)
          replace V_ts_376 := V_ts_376.other W446 ne_ts_376_b378
          replace V_tl_376 := V_tl_376.other W446 ne_tl_376_b378
          replace Z0 := Nat.le_trans Z0 (Keep.of_wr W446).1
          replace V_b378 := Vn
          replace NF := Fr.snoc X446 NF g_b378
          clear W446 hin445 q445 S445 N445 H445 G445 Ar445
          show WP p.tables e below _ T446 (mkF m 128 #[.val (.long q1), .second, .val (.long q2), .second, .val (.long q3), .second, .val (.int p4), .val (.int p5), .val (.int p6), .val (.int (3 : Int32)), .val (.int s0), .val (.int s1), .val (.int s2), .val (.int la), .val (.int lb), .val (.int lc), .val (.ref b374), .val (.ref b378), .val (.int (0 : Int32)), .val (.int (1 : Int32)), .unset] [])
          have bk447 : ∀ t, Steps p.tables e below (T446.setTop (mkF m 131 #[.val (.long q1), .second, .val (.long q2), .second, .val (.long q3), .second, .val (.int p4), .val (.int p5), .val (.int p6), .val (.int (3 : Int32)), .val (.int s0), .val (.int s1), .val (.int s2), .val (.int la), .val (.int lb), .val (.int lc), .val (.ref b374), .val (.ref b378), .val (.int ((0 : Int32) + (1 : Int32))), .val (.int (1 : Int32)), .unset] [])) t → Steps p.tables e below (T446.setTop (mkF m 128 #[.val (.long q1), .second, .val (.long q2), .second, .val (.long q3), .second, .val (.int p4), .val (.int p5), .val (.int p6), .val (.int (3 : Int32)), .val (.int s0), .val (.int s1), .val (.int s2), .val (.int la), .val (.int lb), .val (.int lc), .val (.ref b374), .val (.ref b378), .val (.int (0 : Int32)), .val (.int (1 : Int32)), .unset] [])) t := fun t k => by
            refine XS.iinc X446.here hx rfl (hb hby at_128) rfl (l' := #[.val (.long q1), .second, .val (.long q2), .second, .val (.long q3), .second, .val (.int p4), .val (.int p5), .val (.int p6), .val (.int (3 : Int32)), .val (.int s0), .val (.int s1), .val (.int s2), .val (.int la), .val (.int lb), .val (.int lc), .val (.ref b374), .val (.ref b378), .val (.int ((0 : Int32) + (1 : Int32))), .val (.int (1 : Int32)), .unset]) rfl ?_
            exact k
          refine WP.st bk447 ?_
          clear bk447
          rw [show ((0 : Int32) + (1 : Int32)) = (1 : Int32) from by decide]
          show WP p.tables e below _ T446 (mkF m 131 #[.val (.long q1), .second, .val (.long q2), .second, .val (.long q3), .second, .val (.int p4), .val (.int p5), .val (.int p6), .val (.int (3 : Int32)), .val (.int s0), .val (.int s1), .val (.int s2), .val (.int la), .val (.int lb), .val (.int lc), .val (.ref b374), .val (.ref b378), .val (.int (1 : Int32)), .val (.int (1 : Int32)), .unset] [])
          have bk449 : ∀ t, Steps p.tables e below (T446.setTop (mkF m 141 #[.val (.long q1), .second, .val (.long q2), .second, .val (.long q3), .second, .val (.int p4), .val (.int p5), .val (.int p6), .val (.int (3 : Int32)), .val (.int s0), .val (.int s1), .val (.int s2), .val (.int la), .val (.int lb), .val (.int lc), .val (.ref b374), .val (.ref b378), .val (.int (1 : Int32)), .val (.int (1 : Int32)), .unset] [(.int s0), (.int s1)])) t → Steps p.tables e below (T446.setTop (mkF m 131 #[.val (.long q1), .second, .val (.long q2), .second, .val (.long q3), .second, .val (.int p4), .val (.int p5), .val (.int p6), .val (.int (3 : Int32)), .val (.int s0), .val (.int s1), .val (.int s2), .val (.int la), .val (.int lb), .val (.int lc), .val (.ref b374), .val (.ref b378), .val (.int (1 : Int32)), .val (.int (1 : Int32)), .unset] [])) t := fun t k => by
            refine XS.iload X446.here hx rfl (hb hby at_131) rfl ?_
            refine XS.iconst X446.here hx rfl (hb hby at_133) ?_
            refine XS.icmpNo X446.here hx rfl (hb hby at_134) rfl (flt (by decide : ¬ ((3 : Int32) < (2 : Int32)))).1 ?_
            refine XS.iload X446.here hx rfl (hb hby at_137) rfl ?_
            show Steps p.tables e below (T446.setTop (mkF m 139 #[.val (.long q1), .second, .val (.long q2), .second, .val (.long q3), .second, .val (.int p4), .val (.int p5), .val (.int p6), .val (.int (3 : Int32)), .val (.int s0), .val (.int s1), .val (.int s2), .val (.int la), .val (.int lb), .val (.int lc), .val (.ref b374), .val (.ref b378), .val (.int (1 : Int32)), .val (.int (1 : Int32)), .unset] [(.int s1)])) t
            refine XS.iload X446.here hx rfl (hb hby at_139) rfl ?_
            exact k
          refine WP.st bk449 ?_
          clear bk449
          by_cases hc448 : s1 = s0
          · skip
            have bk450 : ∀ t, Steps p.tables e below (T446.setTop (mkF m 159 #[.val (.long q1), .second, .val (.long q2), .second, .val (.long q3), .second, .val (.int p4), .val (.int p5), .val (.int p6), .val (.int (3 : Int32)), .val (.int s0), .val (.int s1), .val (.int s2), .val (.int la), .val (.int lb), .val (.int lc), .val (.ref b374), .val (.ref b378), .val (.int (1 : Int32)), .val (.int (0 : Int32)), .unset] [(.int lb), (.long (1 : Int64)), (.long q2), (.int s1), (.ref b374)])) t → Steps p.tables e below (T446.setTop (mkF m 141 #[.val (.long q1), .second, .val (.long q2), .second, .val (.long q3), .second, .val (.int p4), .val (.int p5), .val (.int p6), .val (.int (3 : Int32)), .val (.int s0), .val (.int s1), .val (.int s2), .val (.int la), .val (.int lb), .val (.int lc), .val (.ref b374), .val (.ref b378), .val (.int (1 : Int32)), .val (.int (1 : Int32)), .unset] [(.int s0), (.int s1)])) t := fun t k => by
              refine XS.icmpYes X446.here hx rfl (pc0 := 141) (pc' := 148) rfl (hb hby at_141) rfl (teq hc448).1 (by decide) (by decide) ?_
              refine XS.iconst X446.here hx rfl (hb hby at_148) ?_
              refine XS.istore X446.here hx rfl (hb hby at_149) rfl (l' := #[.val (.long q1), .second, .val (.long q2), .second, .val (.long q3), .second, .val (.int p4), .val (.int p5), .val (.int p6), .val (.int (3 : Int32)), .val (.int s0), .val (.int s1), .val (.int s2), .val (.int la), .val (.int lb), .val (.int lc), .val (.ref b374), .val (.ref b378), .val (.int (1 : Int32)), .val (.int (0 : Int32)), .unset]) rfl ?_
              refine XS.aload X446.here hx rfl (hb hby at_151) rfl rfl ?_
              show Steps p.tables e below (T446.setTop (mkF m 153 #[.val (.long q1), .second, .val (.long q2), .second, .val (.long q3), .second, .val (.int p4), .val (.int p5), .val (.int p6), .val (.int (3 : Int32)), .val (.int s0), .val (.int s1), .val (.int s2), .val (.int la), .val (.int lb), .val (.int lc), .val (.ref b374), .val (.ref b378), .val (.int (1 : Int32)), .val (.int (0 : Int32)), .unset] [(.ref b374)])) t
              refine XS.iload X446.here hx rfl (hb hby at_153) rfl ?_
              refine XS.lloadN X446.here hx rfl (hb hby at_155) rfl ?_
              refine XS.lconst X446.here hx rfl (hb hby at_156) ?_
              refine XS.iload X446.here hx rfl (hb hby at_157) rfl ?_
              exact k
            refine WP.st bk450 ?_
            clear bk450
            obtain ⟨cq451, kq451, q451a, q451b, q451c⟩ := isOf hZ e446 E_b374
            obtain ⟨_, _, ⟨T451, L451, k451, n451⟩, -, X451, ⟨Lc451, hQ451, l451, y451, z451⟩, st451⟩ := X446.virtualBack hx (y := (⟨"com/example/otayori/otayori/bench/PairTally", "record", "(IJJZ)Z"⟩ : MethodName)) (z := (⟨"com/example/otayori/otayori/bench/PairTally", "record", "(IJJZ)Z"⟩ : MethodName)) hown (mvT hZ (hw _ (List.mem_of_getElem? (i := 19) rfl))) (mvT hZ (hw _ (List.mem_of_getElem? (i := 20) rfl))) (notFace_of_selects (args := #[]) (mvT hZ (hw _ (List.mem_of_getElem? (i := 22) rfl)))) (mvT hZ (hw _ (List.mem_of_getElem? (i := 22) rfl))) (mvT hZ (hw _ (List.mem_of_getElem? (i := 21) rfl))) (by decide) (backOf (W := 0) (rm3d l Z a0 hw [] b374 s1 q2 (1 : Int64) lb s1_442 (8 : Int32) d1_442 l1_442 o1_442 (0 : Int64) n1_442 ts_376 ks_376 tl_376 kl_376 ((0 : Int64) ||| (own_bit s0)) (.int (own_lat q1)) (.int (0 : Int32)) (.int (0 : Int32)) (.int (0 : Int32)) (.int (0 : Int32)) (.int (0 : Int32)) (.int (0 : Int32)) (.int (0 : Int32)) (.int (0 : Int32)) (.int (0 : Int32)) (.int (0 : Int32)) (.int (0 : Int32)) (.int (0 : Int32)) (.int (0 : Int32)) (.int (0 : Int32)) (.int (0 : Int32)) h446 n0 Z0 E_b374 g_b374 F_b374_highestSequence F_b374_messages F_b374_delivered F_b374_late F_b374_outOfOrder F_b374_duplicated F_b374_lastDeliveryNanos F_b374_seen F_b374_latenciesMicros V_ts_376 V_tl_376 g_ts_376 g_tl_376 ne_b374_ts_376 ne_b374_tl_376 ne_tl_376_ts_376 (hs1 : own_small s1) (fun q => (own_b1 hs0 hs1).1 ((lw_eq _ _).1 q) hc448)) hZ (hw _ (List.mem_of_getElem? (i := 23) rfl)) (hw _ (List.mem_of_getElem? (i := 2) rfl)) (by decide) (by decide)) q451a q451c (g := (mkF m 159 #[.val (.long q1), .second, .val (.long q2), .second, .val (.long q3), .second, .val (.int p4), .val (.int p5), .val (.int p6), .val (.int (3 : Int32)), .val (.int s0), .val (.int s1), .val (.int s2), .val (.int la), .val (.int lb), .val (.int lc), .val (.ref b374), .val (.ref b378), .val (.int (1 : Int32)), .val (.int (0 : Int32)), .unset] [(.int lb), (.long (1 : Int64)), (.long q2), (.int s1), (.ref b374)])) rfl (by rw [hml]; rfl) (Steps.refl _) (argsL := [(.int s1), (.long q2), (.long (1 : Int64)), (.int lb)]) (rest := []) (lenOf pd_5 rfl) rfl (by show 2 * 0 + _ ≤ _; exact Nat.le_of_eq rfl) (hb hby at_159) (fun _ _ => ⟨rfl, e446, (by decide : 4 + 0 ≤ _), (by decide : 29 + 0 ≤ _)⟩)
            dsimp only [Pt.U, Pt.locs, Pt.cells, Pt.slots] at X451 l451 y451 z451 st451 hQ451
            subst l451 y451 z451
            obtain ⟨c1_451, rfl, Nq451, Kq451, nF451_b374_highestSequence, nF451_b374_messages, nF451_b374_delivered, nF451_b374_late, nF451_b374_outOfOrder, nF451_b374_duplicated, nF451_b374_lastDeliveryNanos, nF451_b374_seen, nF451_b374_latenciesMicros, nA451_ts_376, nA451_tl_376⟩ := hQ451
            replace NF := Fr.app NF Nq451
            clear Nq451
            refine WP.tr st451 ?_
            clear st451
            obtain ⟨h451, e451⟩ : ∃ h, T451.heap = h := ⟨_, rfl⟩
            rw [e451] at Kq451 nF451_b374_highestSequence nF451_b374_messages nF451_b374_delivered nF451_b374_late nF451_b374_outOfOrder nF451_b374_duplicated nF451_b374_lastDeliveryNanos nF451_b374_seen nF451_b374_latenciesMicros nA451_ts_376 nA451_tl_376
            replace E_b374 := E_b374.keep Kq451
            clear F_b374_highestSequence
            clear F_b374_messages
            clear F_b374_delivered
            clear F_b374_late
            clear F_b374_outOfOrder
            clear F_b374_duplicated
            clear F_b374_lastDeliveryNanos
            clear F_b374_seen
            clear F_b374_latenciesMicros
            clear V_ts_376
            clear V_tl_376
            replace V_b378 := V_b378.keep Kq451 (by exact ninS (Ne.symm ne_b374_b378) (ninS (Ne.symm ne_ts_376_b378) (ninS (Ne.symm ne_tl_376_b378) (nin0))))
            replace Z0 := Nat.le_trans Z0 Kq451.1
            clear Kq451
            have F_b374_highestSequence := nF451_b374_highestSequence
            clear nF451_b374_highestSequence
            have F_b374_messages := nF451_b374_messages
            clear nF451_b374_messages
            have F_b374_delivered := nF451_b374_delivered
            clear nF451_b374_delivered
            have F_b374_late := nF451_b374_late
            clear nF451_b374_late
            have F_b374_outOfOrder := nF451_b374_outOfOrder
            clear nF451_b374_outOfOrder
            have F_b374_duplicated := nF451_b374_duplicated
            clear nF451_b374_duplicated
            have F_b374_lastDeliveryNanos := nF451_b374_lastDeliveryNanos
            clear nF451_b374_lastDeliveryNanos
            have F_b374_seen := nF451_b374_seen
            clear nF451_b374_seen
            have F_b374_latenciesMicros := nF451_b374_latenciesMicros
            clear nF451_b374_latenciesMicros
            have V_ts_376 := nA451_ts_376
            clear nA451_ts_376
            have V_tl_376 := nA451_tl_376
            clear nA451_tl_376
            show WP p.tables e below _ T451 (mkF m 162 #[.val (.long q1), .second, .val (.long q2), .second, .val (.long q3), .second, .val (.int p4), .val (.int p5), .val (.int p6), .val (.int (3 : Int32)), .val (.int s0), .val (.int s1), .val (.int s2), .val (.int la), .val (.int lb), .val (.int lc), .val (.ref b374), .val (.ref b378), .val (.int (1 : Int32)), .val (.int (0 : Int32)), .unset] [(.int (0 : Int32))])
            have bk453 : ∀ t, Steps p.tables e below (T451.setTop (mkF m 200 #[.val (.long q1), .second, .val (.long q2), .second, .val (.long q3), .second, .val (.int p4), .val (.int p5), .val (.int p6), .val (.int (3 : Int32)), .val (.int s0), .val (.int s1), .val (.int s2), .val (.int la), .val (.int lb), .val (.int lc), .val (.ref b374), .val (.ref b378), .val (.int (1 : Int32)), .val (.int (0 : Int32)), .val (.int (0 : Int32))] [(.int s0), (.int s2)])) t → Steps p.tables e below (T451.setTop (mkF m 162 #[.val (.long q1), .second, .val (.long q2), .second, .val (.long q3), .second, .val (.int p4), .val (.int p5), .val (.int p6), .val (.int (3 : Int32)), .val (.int s0), .val (.int s1), .val (.int s2), .val (.int la), .val (.int lb), .val (.int lc), .val (.ref b374), .val (.ref b378), .val (.int (1 : Int32)), .val (.int (0 : Int32)), .unset] [(.int (0 : Int32))])) t := fun t k => by
              refine XS.istore X451.here hx rfl (hb hby at_162) rfl (l' := #[.val (.long q1), .second, .val (.long q2), .second, .val (.long q3), .second, .val (.int p4), .val (.int p5), .val (.int p6), .val (.int (3 : Int32)), .val (.int s0), .val (.int s1), .val (.int s2), .val (.int la), .val (.int lb), .val (.int lc), .val (.ref b374), .val (.ref b378), .val (.int (1 : Int32)), .val (.int (0 : Int32)), .val (.int (0 : Int32))]) rfl ?_
              refine XS.iload X451.here hx rfl (hb hby at_164) rfl ?_
              refine XS.iload X451.here hx rfl (hb hby at_166) rfl ?_
              refine XS.icmpYes X451.here hx rfl (pc0 := 168) (pc' := 173) rfl (hb hby at_168) rfl (teq (by decide : (0 : Int32) = (0 : Int32))).1 (by decide) (by decide) ?_
              show Steps p.tables e below (T451.setTop (mkF m 173 #[.val (.long q1), .second, .val (.long q2), .second, .val (.long q3), .second, .val (.int p4), .val (.int p5), .val (.int p6), .val (.int (3 : Int32)), .val (.int s0), .val (.int s1), .val (.int s2), .val (.int la), .val (.int lb), .val (.int lc), .val (.ref b374), .val (.ref b378), .val (.int (1 : Int32)), .val (.int (0 : Int32)), .val (.int (0 : Int32))] [])) t
              refine XS.iload X451.here hx rfl (hb hby at_173) rfl ?_
              refine XS.ifYes X451.here hx rfl (pc0 := 175) (pc' := 190) rfl (hb hby at_175) rfl ((if0 _ _).trans (teq (by decide : (0 : Int32) = (0 : Int32))).1) (by decide) (by decide) ?_
              refine XS.iload X451.here hx rfl (hb hby at_190) rfl ?_
              refine XS.iconst X451.here hx rfl (hb hby at_192) ?_
              show Steps p.tables e below (T451.setTop (mkF m 193 #[.val (.long q1), .second, .val (.long q2), .second, .val (.long q3), .second, .val (.int p4), .val (.int p5), .val (.int p6), .val (.int (3 : Int32)), .val (.int s0), .val (.int s1), .val (.int s2), .val (.int la), .val (.int lb), .val (.int lc), .val (.ref b374), .val (.ref b378), .val (.int (1 : Int32)), .val (.int (0 : Int32)), .val (.int (0 : Int32))] [(.int (3 : Int32)), (.int (3 : Int32))])) t
              refine XS.icmpNo X451.here hx rfl (hb hby at_193) rfl (flt (by decide : ¬ ((3 : Int32) < (3 : Int32)))).1 ?_
              refine XS.iload X451.here hx rfl (hb hby at_196) rfl ?_
              refine XS.iload X451.here hx rfl (hb hby at_198) rfl ?_
              exact k
            refine WP.st bk453 ?_
            clear bk453
            by_cases hc452 : s2 = s0
            · skip
              have bk454 : ∀ t, Steps p.tables e below (T451.setTop (mkF m 228 #[.val (.long q1), .second, .val (.long q2), .second, .val (.long q3), .second, .val (.int p4), .val (.int p5), .val (.int p6), .val (.int (3 : Int32)), .val (.int s0), .val (.int s1), .val (.int s2), .val (.int la), .val (.int lb), .val (.int lc), .val (.ref b374), .val (.ref b378), .val (.int (1 : Int32)), .val (.int (0 : Int32)), .val (.int (0 : Int32))] [(.int lc), (.long (2 : Int64)), (.long q3), (.int s2), (.ref b374)])) t → Steps p.tables e below (T451.setTop (mkF m 200 #[.val (.long q1), .second, .val (.long q2), .second, .val (.long q3), .second, .val (.int p4), .val (.int p5), .val (.int p6), .val (.int (3 : Int32)), .val (.int s0), .val (.int s1), .val (.int s2), .val (.int la), .val (.int lb), .val (.int lc), .val (.ref b374), .val (.ref b378), .val (.int (1 : Int32)), .val (.int (0 : Int32)), .val (.int (0 : Int32))] [(.int s0), (.int s2)])) t := fun t k => by
                refine XS.icmpYes X451.here hx rfl (pc0 := 200) (pc' := 214) rfl (hb hby at_200) rfl (teq hc452).1 (by decide) (by decide) ?_
                refine XS.iconst X451.here hx rfl (hb hby at_214) ?_
                refine XS.istore X451.here hx rfl (hb hby at_215) rfl (l' := #[.val (.long q1), .second, .val (.long q2), .second, .val (.long q3), .second, .val (.int p4), .val (.int p5), .val (.int p6), .val (.int (3 : Int32)), .val (.int s0), .val (.int s1), .val (.int s2), .val (.int la), .val (.int lb), .val (.int lc), .val (.ref b374), .val (.ref b378), .val (.int (1 : Int32)), .val (.int (0 : Int32)), .val (.int (0 : Int32))]) rfl ?_
                refine XS.aload X451.here hx rfl (hb hby at_217) rfl rfl ?_
                show Steps p.tables e below (T451.setTop (mkF m 219 #[.val (.long q1), .second, .val (.long q2), .second, .val (.long q3), .second, .val (.int p4), .val (.int p5), .val (.int p6), .val (.int (3 : Int32)), .val (.int s0), .val (.int s1), .val (.int s2), .val (.int la), .val (.int lb), .val (.int lc), .val (.ref b374), .val (.ref b378), .val (.int (1 : Int32)), .val (.int (0 : Int32)), .val (.int (0 : Int32))] [(.ref b374)])) t
                refine XS.iload X451.here hx rfl (hb hby at_219) rfl ?_
                refine XS.lload X451.here hx rfl (hb hby at_221) rfl ?_
                refine X451.ldc2Long hx hown (mvT hZ (hw _ (List.mem_of_getElem? (i := 45) rfl))) (g := (mkF m 223 #[.val (.long q1), .second, .val (.long q2), .second, .val (.long q3), .second, .val (.int p4), .val (.int p5), .val (.int p6), .val (.int (3 : Int32)), .val (.int s0), .val (.int s1), .val (.int s2), .val (.int la), .val (.int lb), .val (.int lc), .val (.ref b374), .val (.ref b378), .val (.int (1 : Int32)), .val (.int (0 : Int32)), .val (.int (0 : Int32))] [(.long q3), (.int s2), (.ref b374)])) rfl (hb hby at_223) _ ?_
                refine XS.iload X451.here hx rfl (hb hby at_226) rfl ?_
                exact k
              refine WP.st bk454 ?_
              clear bk454
              obtain ⟨cq455, kq455, q455a, q455b, q455c⟩ := isOf hZ e451 E_b374
              obtain ⟨_, _, ⟨T455, L455, k455, n455⟩, -, X455, ⟨Lc455, hQ455, l455, y455, z455⟩, st455⟩ := X451.virtualBack hx (y := (⟨"com/example/otayori/otayori/bench/PairTally", "record", "(IJJZ)Z"⟩ : MethodName)) (z := (⟨"com/example/otayori/otayori/bench/PairTally", "record", "(IJJZ)Z"⟩ : MethodName)) hown (mvT hZ (hw _ (List.mem_of_getElem? (i := 19) rfl))) (mvT hZ (hw _ (List.mem_of_getElem? (i := 20) rfl))) (notFace_of_selects (args := #[]) (mvT hZ (hw _ (List.mem_of_getElem? (i := 22) rfl)))) (mvT hZ (hw _ (List.mem_of_getElem? (i := 22) rfl))) (mvT hZ (hw _ (List.mem_of_getElem? (i := 21) rfl))) (by decide) (backOf (W := 0) (rm3d l Z a0 hw [] b374 s2 q3 (2 : Int64) lc s1_442 (8 : Int32) d1_442 l1_442 o1_442 c1_451 n1_442 ts_376 ks_376 tl_376 kl_376 ((0 : Int64) ||| (own_bit s0)) (.int (own_lat q1)) (.int (0 : Int32)) (.int (0 : Int32)) (.int (0 : Int32)) (.int (0 : Int32)) (.int (0 : Int32)) (.int (0 : Int32)) (.int (0 : Int32)) (.int (0 : Int32)) (.int (0 : Int32)) (.int (0 : Int32)) (.int (0 : Int32)) (.int (0 : Int32)) (.int (0 : Int32)) (.int (0 : Int32)) (.int (0 : Int32)) h451 n0 Z0 E_b374 g_b374 F_b374_highestSequence F_b374_messages F_b374_delivered F_b374_late F_b374_outOfOrder F_b374_duplicated F_b374_lastDeliveryNanos F_b374_seen F_b374_latenciesMicros V_ts_376 V_tl_376 g_ts_376 g_tl_376 ne_b374_ts_376 ne_b374_tl_376 ne_tl_376_ts_376 (hs2 : own_small s2) (fun q => (own_b1 hs0 hs2).1 ((lw_eq _ _).1 q) hc452)) hZ (hw _ (List.mem_of_getElem? (i := 23) rfl)) (hw _ (List.mem_of_getElem? (i := 2) rfl)) (by decide) (by decide)) q455a q455c (g := (mkF m 228 #[.val (.long q1), .second, .val (.long q2), .second, .val (.long q3), .second, .val (.int p4), .val (.int p5), .val (.int p6), .val (.int (3 : Int32)), .val (.int s0), .val (.int s1), .val (.int s2), .val (.int la), .val (.int lb), .val (.int lc), .val (.ref b374), .val (.ref b378), .val (.int (1 : Int32)), .val (.int (0 : Int32)), .val (.int (0 : Int32))] [(.int lc), (.long (2 : Int64)), (.long q3), (.int s2), (.ref b374)])) rfl (by rw [hml]; rfl) (Steps.refl _) (argsL := [(.int s2), (.long q3), (.long (2 : Int64)), (.int lc)]) (rest := []) (lenOf pd_5 rfl) rfl (by show 2 * 0 + _ ≤ _; exact Nat.le_of_eq rfl) (hb hby at_228) (fun _ _ => ⟨rfl, e451, (by decide : 4 + 0 ≤ _), (by decide : 29 + 0 ≤ _)⟩)
              dsimp only [Pt.U, Pt.locs, Pt.cells, Pt.slots] at X455 l455 y455 z455 st455 hQ455
              subst l455 y455 z455
              obtain ⟨c1_455, rfl, Nq455, Kq455, nF455_b374_highestSequence, nF455_b374_messages, nF455_b374_delivered, nF455_b374_late, nF455_b374_outOfOrder, nF455_b374_duplicated, nF455_b374_lastDeliveryNanos, nF455_b374_seen, nF455_b374_latenciesMicros, nA455_ts_376, nA455_tl_376⟩ := hQ455
              replace NF := Fr.app NF Nq455
              clear Nq455
              refine WP.tr st455 ?_
              clear st455
              obtain ⟨h455, e455⟩ : ∃ h, T455.heap = h := ⟨_, rfl⟩
              rw [e455] at Kq455 nF455_b374_highestSequence nF455_b374_messages nF455_b374_delivered nF455_b374_late nF455_b374_outOfOrder nF455_b374_duplicated nF455_b374_lastDeliveryNanos nF455_b374_seen nF455_b374_latenciesMicros nA455_ts_376 nA455_tl_376
              replace E_b374 := E_b374.keep Kq455
              replace V_b378 := V_b378.keep Kq455 (by exact ninS (Ne.symm ne_b374_b378) (ninS (Ne.symm ne_ts_376_b378) (ninS (Ne.symm ne_tl_376_b378) (nin0))))
              clear F_b374_highestSequence
              clear F_b374_messages
              clear F_b374_delivered
              clear F_b374_late
              clear F_b374_outOfOrder
              clear F_b374_duplicated
              clear F_b374_lastDeliveryNanos
              clear F_b374_seen
              clear F_b374_latenciesMicros
              clear V_ts_376
              clear V_tl_376
              replace Z0 := Nat.le_trans Z0 Kq455.1
              clear Kq455
              have F_b374_highestSequence := nF455_b374_highestSequence
              clear nF455_b374_highestSequence
              have F_b374_messages := nF455_b374_messages
              clear nF455_b374_messages
              have F_b374_delivered := nF455_b374_delivered
              clear nF455_b374_delivered
              have F_b374_late := nF455_b374_late
              clear nF455_b374_late
              have F_b374_outOfOrder := nF455_b374_outOfOrder
              clear nF455_b374_outOfOrder
              have F_b374_duplicated := nF455_b374_duplicated
              clear nF455_b374_duplicated
              have F_b374_lastDeliveryNanos := nF455_b374_lastDeliveryNanos
              clear nF455_b374_lastDeliveryNanos
              have F_b374_seen := nF455_b374_seen
              clear nF455_b374_seen
              have F_b374_latenciesMicros := nF455_b374_latenciesMicros
              clear nF455_b374_latenciesMicros
              have V_ts_376 := nA455_ts_376
              clear nA455_ts_376
              have V_tl_376 := nA455_tl_376
              clear nA455_tl_376
              show WP p.tables e below _ T455 (mkF m 231 #[.val (.long q1), .second, .val (.long q2), .second, .val (.long q3), .second, .val (.int p4), .val (.int p5), .val (.int p6), .val (.int (3 : Int32)), .val (.int s0), .val (.int s1), .val (.int s2), .val (.int la), .val (.int lb), .val (.int lc), .val (.ref b374), .val (.ref b378), .val (.int (1 : Int32)), .val (.int (0 : Int32)), .val (.int (0 : Int32))] [(.int (0 : Int32))])
              have bk456 : ∀ t, Steps p.tables e below (T455.setTop (mkF m 262 #[.val (.long q1), .second, .val (.long q2), .second, .val (.long q3), .second, .val (.int p4), .val (.int p5), .val (.int p6), .val (.int (3 : Int32)), .val (.int s0), .val (.int s1), .val (.int s2), .val (.int la), .val (.int lb), .val (.int lc), .val (.ref b374), .val (.ref b378), .val (.int (1 : Int32)), .val (.int (0 : Int32)), .val (.int (0 : Int32))] [(.ref b374)])) t → Steps p.tables e below (T455.setTop (mkF m 231 #[.val (.long q1), .second, .val (.long q2), .second, .val (.long q3), .second, .val (.int p4), .val (.int p5), .val (.int p6), .val (.int (3 : Int32)), .val (.int s0), .val (.int s1), .val (.int s2), .val (.int la), .val (.int lb), .val (.int lc), .val (.ref b374), .val (.ref b378), .val (.int (1 : Int32)), .val (.int (0 : Int32)), .val (.int (0 : Int32))] [(.int (0 : Int32))])) t := fun t k => by
                refine XS.istore X455.here hx rfl (hb hby at_231) rfl (l' := #[.val (.long q1), .second, .val (.long q2), .second, .val (.long q3), .second, .val (.int p4), .val (.int p5), .val (.int p6), .val (.int (3 : Int32)), .val (.int s0), .val (.int s1), .val (.int s2), .val (.int la), .val (.int lb), .val (.int lc), .val (.ref b374), .val (.ref b378), .val (.int (1 : Int32)), .val (.int (0 : Int32)), .val (.int (0 : Int32))]) rfl ?_
                refine XS.iload X455.here hx rfl (hb hby at_233) rfl ?_
                refine XS.iload X455.here hx rfl (hb hby at_235) rfl ?_
                refine XS.icmpYes X455.here hx rfl (pc0 := 237) (pc' := 242) rfl (hb hby at_237) rfl (teq (by decide : (0 : Int32) = (0 : Int32))).1 (by decide) (by decide) ?_
                show Steps p.tables e below (T455.setTop (mkF m 242 #[.val (.long q1), .second, .val (.long q2), .second, .val (.long q3), .second, .val (.int p4), .val (.int p5), .val (.int p6), .val (.int (3 : Int32)), .val (.int s0), .val (.int s1), .val (.int s2), .val (.int la), .val (.int lb), .val (.int lc), .val (.ref b374), .val (.ref b378), .val (.int (1 : Int32)), .val (.int (0 : Int32)), .val (.int (0 : Int32))] [])) t
                refine XS.iload X455.here hx rfl (hb hby at_242) rfl ?_
                refine XS.ifYes X455.here hx rfl (pc0 := 244) (pc' := 260) rfl (hb hby at_244) rfl ((if0 _ _).trans (teq (by decide : (0 : Int32) = (0 : Int32))).1) (by decide) (by decide) ?_
                refine XS.aload X455.here hx rfl (hb hby at_260) rfl rfl ?_
                exact k
              refine WP.st bk456 ?_
              clear bk456
              obtain ⟨cq457, kq457, q457a, q457b, q457c⟩ := isOf hZ e455 E_b374
              obtain ⟨_, _, ⟨T457, L457, k457, n457⟩, -, X457, ⟨Lc457, hQ457, l457, y457, z457⟩, st457⟩ := X455.virtualBack hx (y := (⟨"com/example/otayori/otayori/bench/PairTally", "latencies", "()[I"⟩ : MethodName)) (z := (⟨"com/example/otayori/otayori/bench/PairTally", "latencies", "()[I"⟩ : MethodName)) hown (mvT hZ (hw _ (List.mem_of_getElem? (i := 48) rfl))) (mvT hZ (hw _ (List.mem_of_getElem? (i := 49) rfl))) (notFace_of_selects (args := #[]) (mvT hZ (hw _ (List.mem_of_getElem? (i := 51) rfl)))) (mvT hZ (hw _ (List.mem_of_getElem? (i := 51) rfl))) (mvT hZ (hw _ (List.mem_of_getElem? (i := 50) rfl))) (by decide) (backOf (W := 0) (rm7k1 l Z a0 hw [] b374 tl_376 kl_376 d1_442 l1_442 (.int (own_lat q1)) (.int (0 : Int32)) (.int (0 : Int32)) (.int (0 : Int32)) (.int (0 : Int32)) (.int (0 : Int32)) (.int (0 : Int32)) (.int (0 : Int32)) (.int (0 : Int32)) (.int (0 : Int32)) (.int (0 : Int32)) (.int (0 : Int32)) (.int (0 : Int32)) (.int (0 : Int32)) (.int (0 : Int32)) (.int (0 : Int32)) h455 n0 Z0 F_b374_latenciesMicros F_b374_delivered F_b374_late V_tl_376 (hde1_442 : d1_442 + l1_442 = (1 : Int64))) hZ (hw _ (List.mem_of_getElem? (i := 52) rfl)) (hw _ (List.mem_of_getElem? (i := 2) rfl)) (by decide) (by decide)) q457a q457c (g := (mkF m 262 #[.val (.long q1), .second, .val (.long q2), .second, .val (.long q3), .second, .val (.int p4), .val (.int p5), .val (.int p6), .val (.int (3 : Int32)), .val (.int s0), .val (.int s1), .val (.int s2), .val (.int la), .val (.int lb), .val (.int lc), .val (.ref b374), .val (.ref b378), .val (.int (1 : Int32)), .val (.int (0 : Int32)), .val (.int (0 : Int32))] [(.ref b374)])) rfl (by rw [hml]; rfl) (Steps.refl _) (argsL := []) (rest := []) (lenOf pd_4 rfl) rfl (by show 2 * 0 + _ ≤ _; exact Nat.le_of_eq rfl) (hb hby at_262) (fun _ _ => ⟨rfl, e455, (by decide : 4 + 1 ≤ _), (by decide : 29 + 1 ≤ _)⟩)
              dsimp only [Pt.U, Pt.locs, Pt.cells, Pt.slots] at X457 l457 y457 z457 st457 hQ457
              subst l457 y457 z457
              obtain ⟨r_457, kr_457, rfl, Nq457, Kq457, szq_r_457, nA457_r_457⟩ := hQ457
              replace NF := Fr.app NF Nq457
              clear Nq457
              refine WP.tr st457 ?_
              clear st457
              obtain ⟨h457, e457⟩ : ∃ h, T457.heap = h := ⟨_, rfl⟩
              rw [e457] at Kq457 nA457_r_457
              have ne_b374_r_457 : b374 ≠ r_457 := Nat.ne_of_lt (Nat.lt_of_lt_of_le E_b374.lt szq_r_457)
              have ne_b378_r_457 : b378 ≠ r_457 := Nat.ne_of_lt (Nat.lt_of_lt_of_le V_b378.lt szq_r_457)
              have ne_ts_376_r_457 : ts_376 ≠ r_457 := Nat.ne_of_lt (Nat.lt_of_lt_of_le V_ts_376.lt szq_r_457)
              have ne_tl_376_r_457 : tl_376 ≠ r_457 := Nat.ne_of_lt (Nat.lt_of_lt_of_le V_tl_376.lt szq_r_457)
              replace E_b374 := E_b374.keep Kq457
              replace V_b378 := V_b378.keep Kq457 (by exact nin0)
              replace F_b374_highestSequence := F_b374_highestSequence.keep Kq457 (by exact nin0)
              replace F_b374_messages := F_b374_messages.keep Kq457 (by exact nin0)
              replace F_b374_delivered := F_b374_delivered.keep Kq457 (by exact nin0)
              replace F_b374_late := F_b374_late.keep Kq457 (by exact nin0)
              replace F_b374_outOfOrder := F_b374_outOfOrder.keep Kq457 (by exact nin0)
              replace F_b374_duplicated := F_b374_duplicated.keep Kq457 (by exact nin0)
              replace F_b374_lastDeliveryNanos := F_b374_lastDeliveryNanos.keep Kq457 (by exact nin0)
              replace F_b374_seen := F_b374_seen.keep Kq457 (by exact nin0)
              replace F_b374_latenciesMicros := F_b374_latenciesMicros.keep Kq457 (by exact nin0)
              replace V_ts_376 := V_ts_376.keep Kq457 (by exact nin0)
              replace V_tl_376 := V_tl_376.keep Kq457 (by exact nin0)
              replace Z0 := Nat.le_trans Z0 Kq457.1
              clear Kq457
              have V_r_457 := nA457_r_457
              clear nA457_r_457
              show WP p.tables e below _ T457 (mkF m 265 #[.val (.long q1), .second, .val (.long q2), .second, .val (.long q3), .second, .val (.int p4), .val (.int p5), .val (.int p6), .val (.int (3 : Int32)), .val (.int s0), .val (.int s1), .val (.int s2), .val (.int la), .val (.int lb), .val (.int lc), .val (.ref b374), .val (.ref b378), .val (.int (1 : Int32)), .val (.int (0 : Int32)), .val (.int (0 : Int32))] [(.ref r_457)])
              have bk458 : ∀ t, Steps p.tables e below (T457.setTop (mkF m 269 #[.val (.long q1), .second, .val (.long q2), .second, .val (.long q3), .second, .val (.int p4), .val (.int p5), .val (.int p6), .val (.int (3 : Int32)), .val (.int s0), .val (.int s1), .val (.int s2), .val (.int la), .val (.int lb), .val (.int lc), .val (.ref b374), .val (.ref b378), .val (.int (1 : Int32)), .val (.ref r_457), .val (.int (0 : Int32))] [(.ref r_457)])) t → Steps p.tables e below (T457.setTop (mkF m 265 #[.val (.long q1), .second, .val (.long q2), .second, .val (.long q3), .second, .val (.int p4), .val (.int p5), .val (.int p6), .val (.int (3 : Int32)), .val (.int s0), .val (.int s1), .val (.int s2), .val (.int la), .val (.int lb), .val (.int lc), .val (.ref b374), .val (.ref b378), .val (.int (1 : Int32)), .val (.int (0 : Int32)), .val (.int (0 : Int32))] [(.ref r_457)])) t := fun t k => by
                refine XS.astore X457.here hx rfl (hb hby at_265) rfl rfl (l' := #[.val (.long q1), .second, .val (.long q2), .second, .val (.long q3), .second, .val (.int p4), .val (.int p5), .val (.int p6), .val (.int (3 : Int32)), .val (.int s0), .val (.int s1), .val (.int s2), .val (.int la), .val (.int lb), .val (.int lc), .val (.ref b374), .val (.ref b378), .val (.int (1 : Int32)), .val (.ref r_457), .val (.int (0 : Int32))]) rfl ?_
                refine XS.aload X457.here hx rfl (hb hby at_267) rfl rfl ?_
                exact k
              refine WP.st bk458 ?_
              clear bk458
              obtain ⟨cl459, Ar459, len459⟩ := V_r_457.len
              have bk460 : ∀ t, Steps p.tables e below (T457.setTop (mkF m 286 #[.val (.long q1), .second, .val (.long q2), .second, .val (.long q3), .second, .val (.int p4), .val (.int p5), .val (.int p6), .val (.int (3 : Int32)), .val (.int s0), .val (.int s1), .val (.int s2), .val (.int la), .val (.int lb), .val (.int lc), .val (.ref b374), .val (.ref b378), .val (.int (1 : Int32)), .val (.ref r_457), .val (.int (0 : Int32))] [(.int (0 : Int32)), (.ref r_457)])) t → Steps p.tables e below (T457.setTop (mkF m 269 #[.val (.long q1), .second, .val (.long q2), .second, .val (.long q3), .second, .val (.int p4), .val (.int p5), .val (.int p6), .val (.int (3 : Int32)), .val (.int s0), .val (.int s1), .val (.int s2), .val (.int la), .val (.int lb), .val (.int lc), .val (.ref b374), .val (.ref b378), .val (.int (1 : Int32)), .val (.ref r_457), .val (.int (0 : Int32))] [(.ref r_457)])) t := fun t k => by
                refine X457.arraylength hx (by rw [e457]; exact Ar459.1) (State.isArrayOf_alike hZ.alike Ar459.2.1) (g := (mkF m 269 #[.val (.long q1), .second, .val (.long q2), .second, .val (.long q3), .second, .val (.int p4), .val (.int p5), .val (.int p6), .val (.int (3 : Int32)), .val (.int s0), .val (.int s1), .val (.int s2), .val (.int la), .val (.int lb), .val (.int lc), .val (.ref b374), .val (.ref b378), .val (.int (1 : Int32)), .val (.ref r_457), .val (.int (0 : Int32))] [(.ref r_457)])) rfl rfl (hb hby at_269) _ ?_
                rw [len459]
                refine XS.iload X457.here hx rfl (hb hby at_270) rfl ?_
                refine XS.icmpYes X457.here hx rfl (pc0 := 272) (pc' := 277) rfl (hb hby at_272) rfl (teq (by decide : (1 : Int32) = (1 : Int32))).1 (by decide) (by decide) ?_
                refine XS.iload X457.here hx rfl (hb hby at_277) rfl ?_
                show Steps p.tables e below (T457.setTop (mkF m 279 #[.val (.long q1), .second, .val (.long q2), .second, .val (.long q3), .second, .val (.int p4), .val (.int p5), .val (.int p6), .val (.int (3 : Int32)), .val (.int s0), .val (.int s1), .val (.int s2), .val (.int la), .val (.int lb), .val (.int lc), .val (.ref b374), .val (.ref b378), .val (.int (1 : Int32)), .val (.ref r_457), .val (.int (0 : Int32))] [(.int (1 : Int32))])) t
                refine XS.iconst X457.here hx rfl (hb hby at_279) ?_
                refine XS.icmpNo X457.here hx rfl (hb hby at_280) rfl (flt (by decide : ¬ ((1 : Int32) < (1 : Int32)))).1 ?_
                refine XS.aload X457.here hx rfl (hb hby at_283) rfl rfl ?_
                refine XS.iconst X457.here hx rfl (hb hby at_285) ?_
                exact k
              refine WP.st bk460 ?_
              clear bk460
              obtain ⟨cl461, Ar461, hin461, hat461, -⟩ := V_r_457.rd (j := (0 : Int32)) ⟨by decide, by decide⟩
              replace hat461 : cl461.slots[((0 : Int32)).toNatClampNeg]? = some (.int (own_lat q1)) := hat461
              have bk462 : ∀ t, Steps p.tables e below (T457.setTop (mkF m 290 #[.val (.long q1), .second, .val (.long q2), .second, .val (.long q3), .second, .val (.int p4), .val (.int p5), .val (.int p6), .val (.int (3 : Int32)), .val (.int s0), .val (.int s1), .val (.int s2), .val (.int la), .val (.int lb), .val (.int lc), .val (.ref b374), .val (.ref b378), .val (.int (1 : Int32)), .val (.ref r_457), .val (.int (0 : Int32))] [(.int (0 : Int32)), (.ref b378), (.int (own_lat q1))])) t → Steps p.tables e below (T457.setTop (mkF m 286 #[.val (.long q1), .second, .val (.long q2), .second, .val (.long q3), .second, .val (.int p4), .val (.int p5), .val (.int p6), .val (.int (3 : Int32)), .val (.int s0), .val (.int s1), .val (.int s2), .val (.int la), .val (.int lb), .val (.int lc), .val (.ref b374), .val (.ref b378), .val (.int (1 : Int32)), .val (.ref r_457), .val (.int (0 : Int32))] [(.int (0 : Int32)), (.ref r_457)])) t := fun t k => by
                refine X457.iaload hx (j := (0 : Int32)) (v := (.int (own_lat q1))) (by rw [e457]; exact Ar461.1) (State.isArrayOf_alike hZ.alike Ar461.2.1) Ar461.2.2 hin461 hat461 (g := (mkF m 286 #[.val (.long q1), .second, .val (.long q2), .second, .val (.long q3), .second, .val (.int p4), .val (.int p5), .val (.int p6), .val (.int (3 : Int32)), .val (.int s0), .val (.int s1), .val (.int s2), .val (.int la), .val (.int lb), .val (.int lc), .val (.ref b374), .val (.ref b378), .val (.int (1 : Int32)), .val (.ref r_457), .val (.int (0 : Int32))] [(.int (0 : Int32)), (.ref r_457)])) rfl rfl (hb hby at_286) _ ?_
                refine XS.aload X457.here hx rfl (hb hby at_287) rfl rfl ?_
                refine XS.iconst X457.here hx rfl (hb hby at_289) ?_
                exact k
              refine WP.st bk462 ?_
              clear bk462
              obtain ⟨cl463, Ar463, hin463, hat463, -⟩ := V_b378.rd (j := (0 : Int32)) ⟨by decide, by decide⟩
              replace hat463 : cl463.slots[((0 : Int32)).toNatClampNeg]? = some (.int (own_mic q1)) := hat463
              have bk464 : ∀ t, Steps p.tables e below (T457.setTop (mkF m 335 #[.val (.long q1), .second, .val (.long q2), .second, .val (.long q3), .second, .val (.int p4), .val (.int p5), .val (.int p6), .val (.int (3 : Int32)), .val (.int s0), .val (.int s1), .val (.int s2), .val (.int la), .val (.int lb), .val (.int lc), .val (.ref b374), .val (.ref b378), .val (.int (1 : Int32)), .val (.ref r_457), .val (.int (0 : Int32))] [(.int (1 : Int32))])) t → Steps p.tables e below (T457.setTop (mkF m 290 #[.val (.long q1), .second, .val (.long q2), .second, .val (.long q3), .second, .val (.int p4), .val (.int p5), .val (.int p6), .val (.int (3 : Int32)), .val (.int s0), .val (.int s1), .val (.int s2), .val (.int la), .val (.int lb), .val (.int lc), .val (.ref b374), .val (.ref b378), .val (.int (1 : Int32)), .val (.ref r_457), .val (.int (0 : Int32))] [(.int (0 : Int32)), (.ref b378), (.int (own_lat q1))])) t := fun t k => by
                refine X457.iaload hx (j := (0 : Int32)) (v := (.int (own_mic q1))) (by rw [e457]; exact Ar463.1) (State.isArrayOf_alike hZ.alike Ar463.2.1) Ar463.2.2 hin463 hat463 (g := (mkF m 290 #[.val (.long q1), .second, .val (.long q2), .second, .val (.long q3), .second, .val (.int p4), .val (.int p5), .val (.int p6), .val (.int (3 : Int32)), .val (.int s0), .val (.int s1), .val (.int s2), .val (.int la), .val (.int lb), .val (.int lc), .val (.ref b374), .val (.ref b378), .val (.int (1 : Int32)), .val (.ref r_457), .val (.int (0 : Int32))] [(.int (0 : Int32)), (.ref b378), (.int (own_lat q1))])) rfl rfl (hb hby at_290) _ ?_
                refine XS.icmpYes X457.here hx rfl (pc0 := 291) (pc' := 296) rfl (hb hby at_291) rfl (teq (own_lm q1)).1 (by decide) (by decide) ?_
                refine XS.iload X457.here hx rfl (hb hby at_296) rfl ?_
                refine XS.iconst X457.here hx rfl (hb hby at_298) ?_
                show Steps p.tables e below (T457.setTop (mkF m 299 #[.val (.long q1), .second, .val (.long q2), .second, .val (.long q3), .second, .val (.int p4), .val (.int p5), .val (.int p6), .val (.int (3 : Int32)), .val (.int s0), .val (.int s1), .val (.int s2), .val (.int la), .val (.int lb), .val (.int lc), .val (.ref b374), .val (.ref b378), .val (.int (1 : Int32)), .val (.ref r_457), .val (.int (0 : Int32))] [(.int (2 : Int32)), (.int (1 : Int32))])) t
                refine XS.icmpYes X457.here hx rfl (pc0 := 299) (pc' := 315) rfl (hb hby at_299) rfl (tlt (by decide : (1 : Int32) < (2 : Int32))).1 (by decide) (by decide) ?_
                refine XS.iload X457.here hx rfl (hb hby at_315) rfl ?_
                refine XS.iconst X457.here hx rfl (hb hby at_317) ?_
                refine XS.icmpYes X457.here hx rfl (pc0 := 318) (pc' := 334) rfl (hb hby at_318) rfl (tlt (by decide : (1 : Int32) < (3 : Int32))).1 (by decide) (by decide) ?_
                show Steps p.tables e below (T457.setTop (mkF m 334 #[.val (.long q1), .second, .val (.long q2), .second, .val (.long q3), .second, .val (.int p4), .val (.int p5), .val (.int p6), .val (.int (3 : Int32)), .val (.int s0), .val (.int s1), .val (.int s2), .val (.int la), .val (.int lb), .val (.int lc), .val (.ref b374), .val (.ref b378), .val (.int (1 : Int32)), .val (.ref r_457), .val (.int (0 : Int32))] [])) t
                refine XS.iconst X457.here hx rfl (hb hby at_334) ?_
                exact k
              refine WP.st bk464 ?_
              clear bk464
              subst hG
              obtain ⟨fs, hr, hrun, hended, hW, hsame⟩ := X457.leave (v := some (.int (1 : Int32))) (fun h => by rw [Bd.returns] at h; cases h)
              refine WP.fin ⟨_, _, ?_, hrun, hended, _, _, rfl, ?_, ⟨_, rfl⟩, hW, hsame.mono (by decide) (by decide)⟩
              · exact retN X457 hx (t := .boolean) Bd.returns (by simp) (hb hby at_335) hr
              · show Q0 Z q1 q2 q3 p4 p5 p6 h0 n0 _ T457.heap _
                rw [e457]
                exact ⟨rfl, NF⟩
            · skip
              have bk465 : ∀ t, Steps p.tables e below (T451.setTop (mkF m 228 #[.val (.long q1), .second, .val (.long q2), .second, .val (.long q3), .second, .val (.int p4), .val (.int p5), .val (.int p6), .val (.int (3 : Int32)), .val (.int s0), .val (.int s1), .val (.int s2), .val (.int la), .val (.int lb), .val (.int lc), .val (.ref b374), .val (.ref b378), .val (.int (1 : Int32)), .val (.int (1 : Int32)), .val (.int (0 : Int32))] [(.int lc), (.long (2 : Int64)), (.long q3), (.int s2), (.ref b374)])) t → Steps p.tables e below (T451.setTop (mkF m 200 #[.val (.long q1), .second, .val (.long q2), .second, .val (.long q3), .second, .val (.int p4), .val (.int p5), .val (.int p6), .val (.int (3 : Int32)), .val (.int s0), .val (.int s1), .val (.int s2), .val (.int la), .val (.int lb), .val (.int lc), .val (.ref b374), .val (.ref b378), .val (.int (1 : Int32)), .val (.int (0 : Int32)), .val (.int (0 : Int32))] [(.int s0), (.int s2)])) t := fun t k => by
                refine XS.icmpNo X451.here hx rfl (hb hby at_200) rfl (feq hc452).1 ?_
                refine XS.iload X451.here hx rfl (hb hby at_203) rfl ?_
                refine XS.iload X451.here hx rfl (hb hby at_205) rfl ?_
                refine XS.icmpNo X451.here hx rfl (hb hby at_207) rfl (feq (fun q => hc452 (q.trans hc448))).1 ?_
                show Steps p.tables e below (T451.setTop (mkF m 210 #[.val (.long q1), .second, .val (.long q2), .second, .val (.long q3), .second, .val (.int p4), .val (.int p5), .val (.int p6), .val (.int (3 : Int32)), .val (.int s0), .val (.int s1), .val (.int s2), .val (.int la), .val (.int lb), .val (.int lc), .val (.ref b374), .val (.ref b378), .val (.int (1 : Int32)), .val (.int (0 : Int32)), .val (.int (0 : Int32))] [])) t
                refine XS.iconst X451.here hx rfl (hb hby at_210) ?_
                refine XS.goto X451.here hx rfl (pc0 := 211) (pc' := 215) rfl (hb hby at_211) (by decide) (by decide) ?_
                refine XS.istore X451.here hx rfl (hb hby at_215) rfl (l' := #[.val (.long q1), .second, .val (.long q2), .second, .val (.long q3), .second, .val (.int p4), .val (.int p5), .val (.int p6), .val (.int (3 : Int32)), .val (.int s0), .val (.int s1), .val (.int s2), .val (.int la), .val (.int lb), .val (.int lc), .val (.ref b374), .val (.ref b378), .val (.int (1 : Int32)), .val (.int (1 : Int32)), .val (.int (0 : Int32))]) rfl ?_
                refine XS.aload X451.here hx rfl (hb hby at_217) rfl rfl ?_
                show Steps p.tables e below (T451.setTop (mkF m 219 #[.val (.long q1), .second, .val (.long q2), .second, .val (.long q3), .second, .val (.int p4), .val (.int p5), .val (.int p6), .val (.int (3 : Int32)), .val (.int s0), .val (.int s1), .val (.int s2), .val (.int la), .val (.int lb), .val (.int lc), .val (.ref b374), .val (.ref b378), .val (.int (1 : Int32)), .val (.int (1 : Int32)), .val (.int (0 : Int32))] [(.ref b374)])) t
                refine XS.iload X451.here hx rfl (hb hby at_219) rfl ?_
                refine XS.lload X451.here hx rfl (hb hby at_221) rfl ?_
                refine X451.ldc2Long hx hown (mvT hZ (hw _ (List.mem_of_getElem? (i := 45) rfl))) (g := (mkF m 223 #[.val (.long q1), .second, .val (.long q2), .second, .val (.long q3), .second, .val (.int p4), .val (.int p5), .val (.int p6), .val (.int (3 : Int32)), .val (.int s0), .val (.int s1), .val (.int s2), .val (.int la), .val (.int lb), .val (.int lc), .val (.ref b374), .val (.ref b378), .val (.int (1 : Int32)), .val (.int (1 : Int32)), .val (.int (0 : Int32))] [(.long q3), (.int s2), (.ref b374)])) rfl (hb hby at_223) _ ?_
                refine XS.iload X451.here hx rfl (hb hby at_226) rfl ?_
                exact k
              refine WP.st bk465 ?_
              clear bk465
              obtain ⟨cq466, kq466, q466a, q466b, q466c⟩ := isOf hZ e451 E_b374
              obtain ⟨_, _, ⟨T466, L466, k466, n466⟩, -, X466, ⟨Lc466, hQ466, l466, y466, z466⟩, st466⟩ := X451.virtualBack hx (y := (⟨"com/example/otayori/otayori/bench/PairTally", "record", "(IJJZ)Z"⟩ : MethodName)) (z := (⟨"com/example/otayori/otayori/bench/PairTally", "record", "(IJJZ)Z"⟩ : MethodName)) hown (mvT hZ (hw _ (List.mem_of_getElem? (i := 19) rfl))) (mvT hZ (hw _ (List.mem_of_getElem? (i := 20) rfl))) (notFace_of_selects (args := #[]) (mvT hZ (hw _ (List.mem_of_getElem? (i := 22) rfl)))) (mvT hZ (hw _ (List.mem_of_getElem? (i := 22) rfl))) (mvT hZ (hw _ (List.mem_of_getElem? (i := 21) rfl))) (by decide) (backOf (W := 0) (rm3f1 l Z a0 hw [] b374 s2 q3 (2 : Int64) lc s1_442 (8 : Int32) d1_442 l1_442 o1_442 c1_451 n1_442 ts_376 ks_376 tl_376 kl_376 ((0 : Int64) ||| (own_bit s0)) (.int (own_lat q1)) (.int (0 : Int32)) (.int (0 : Int32)) (.int (0 : Int32)) (.int (0 : Int32)) (.int (0 : Int32)) (.int (0 : Int32)) (.int (0 : Int32)) (.int (0 : Int32)) (.int (0 : Int32)) (.int (0 : Int32)) (.int (0 : Int32)) (.int (0 : Int32)) (.int (0 : Int32)) (.int (0 : Int32)) (.int (0 : Int32)) h451 n0 Z0 E_b374 g_b374 F_b374_highestSequence F_b374_messages F_b374_delivered F_b374_late F_b374_outOfOrder F_b374_duplicated F_b374_lastDeliveryNanos F_b374_seen F_b374_latenciesMicros V_ts_376 V_tl_376 g_ts_376 g_tl_376 ne_b374_ts_376 ne_b374_tl_376 ne_tl_376_ts_376 (hs2 : own_small s2) ((lw_eq _ _).2 ((own_b1 hs0 hs2).2 hc452)) (hde1_442 : d1_442 + l1_442 = (1 : Int64))) hZ (hw _ (List.mem_of_getElem? (i := 23) rfl)) (hw _ (List.mem_of_getElem? (i := 2) rfl)) (by decide) (by decide)) q466a q466c (g := (mkF m 228 #[.val (.long q1), .second, .val (.long q2), .second, .val (.long q3), .second, .val (.int p4), .val (.int p5), .val (.int p6), .val (.int (3 : Int32)), .val (.int s0), .val (.int s1), .val (.int s2), .val (.int la), .val (.int lb), .val (.int lc), .val (.ref b374), .val (.ref b378), .val (.int (1 : Int32)), .val (.int (1 : Int32)), .val (.int (0 : Int32))] [(.int lc), (.long (2 : Int64)), (.long q3), (.int s2), (.ref b374)])) rfl (by rw [hml]; rfl) (Steps.refl _) (argsL := [(.int s2), (.long q3), (.long (2 : Int64)), (.int lc)]) (rest := []) (lenOf pd_5 rfl) rfl (by show 2 * 0 + _ ≤ _; exact Nat.le_of_eq rfl) (hb hby at_228) (fun _ _ => ⟨rfl, e451, (by decide : 4 + 0 ≤ _), (by decide : 29 + 0 ≤ _)⟩)
              dsimp only [Pt.U, Pt.locs, Pt.cells, Pt.slots] at X466 l466 y466 z466 st466 hQ466
              subst l466 y466 z466
              obtain ⟨d1_466, l1_466, s1_466, o1_466, n1_466, rfl, Nq466, Kq466, nF466_b374_highestSequence, nF466_b374_messages, nF466_b374_delivered, nF466_b374_late, nF466_b374_outOfOrder, nF466_b374_duplicated, nF466_b374_lastDeliveryNanos, nF466_b374_seen, nF466_b374_latenciesMicros, nA466_ts_376, nA466_tl_376, hde1_466⟩ := hQ466
              replace NF := Fr.app NF Nq466
              clear Nq466
              refine WP.tr st466 ?_
              clear st466
              obtain ⟨h466, e466⟩ : ∃ h, T466.heap = h := ⟨_, rfl⟩
              rw [e466] at Kq466 nF466_b374_highestSequence nF466_b374_messages nF466_b374_delivered nF466_b374_late nF466_b374_outOfOrder nF466_b374_duplicated nF466_b374_lastDeliveryNanos nF466_b374_seen nF466_b374_latenciesMicros nA466_ts_376 nA466_tl_376
              replace E_b374 := E_b374.keep Kq466
              replace V_b378 := V_b378.keep Kq466 (by exact ninS (Ne.symm ne_b374_b378) (ninS (Ne.symm ne_ts_376_b378) (ninS (Ne.symm ne_tl_376_b378) (nin0))))
              clear F_b374_highestSequence
              clear F_b374_messages
              clear F_b374_delivered
              clear F_b374_late
              clear F_b374_outOfOrder
              clear F_b374_duplicated
              clear F_b374_lastDeliveryNanos
              clear F_b374_seen
              clear F_b374_latenciesMicros
              clear V_ts_376
              clear V_tl_376
              replace Z0 := Nat.le_trans Z0 Kq466.1
              clear Kq466
              have F_b374_highestSequence := nF466_b374_highestSequence
              clear nF466_b374_highestSequence
              have F_b374_messages := nF466_b374_messages
              clear nF466_b374_messages
              have F_b374_delivered := nF466_b374_delivered
              clear nF466_b374_delivered
              have F_b374_late := nF466_b374_late
              clear nF466_b374_late
              have F_b374_outOfOrder := nF466_b374_outOfOrder
              clear nF466_b374_outOfOrder
              have F_b374_duplicated := nF466_b374_duplicated
              clear nF466_b374_duplicated
              have F_b374_lastDeliveryNanos := nF466_b374_lastDeliveryNanos
              clear nF466_b374_lastDeliveryNanos
              have F_b374_seen := nF466_b374_seen
              clear nF466_b374_seen
              have F_b374_latenciesMicros := nF466_b374_latenciesMicros
              clear nF466_b374_latenciesMicros
              have V_ts_376 := nA466_ts_376
              clear nA466_ts_376
              have V_tl_376 := nA466_tl_376
              clear nA466_tl_376
              show WP p.tables e below _ T466 (mkF m 231 #[.val (.long q1), .second, .val (.long q2), .second, .val (.long q3), .second, .val (.int p4), .val (.int p5), .val (.int p6), .val (.int (3 : Int32)), .val (.int s0), .val (.int s1), .val (.int s2), .val (.int la), .val (.int lb), .val (.int lc), .val (.ref b374), .val (.ref b378), .val (.int (1 : Int32)), .val (.int (1 : Int32)), .val (.int (0 : Int32))] [(.int (1 : Int32))])
              have bk467 : ∀ t, Steps p.tables e below (T466.setTop (mkF m 253 #[.val (.long q1), .second, .val (.long q2), .second, .val (.long q3), .second, .val (.int p4), .val (.int p5), .val (.int p6), .val (.int (3 : Int32)), .val (.int s0), .val (.int s1), .val (.int s2), .val (.int la), .val (.int lb), .val (.int lc), .val (.ref b374), .val (.ref b378), .val (.int (1 : Int32)), .val (.int (1 : Int32)), .val (.int (1 : Int32))] [(.long q3), (.int (1 : Int32)), (.ref b378)])) t → Steps p.tables e below (T466.setTop (mkF m 231 #[.val (.long q1), .second, .val (.long q2), .second, .val (.long q3), .second, .val (.int p4), .val (.int p5), .val (.int p6), .val (.int (3 : Int32)), .val (.int s0), .val (.int s1), .val (.int s2), .val (.int la), .val (.int lb), .val (.int lc), .val (.ref b374), .val (.ref b378), .val (.int (1 : Int32)), .val (.int (1 : Int32)), .val (.int (0 : Int32))] [(.int (1 : Int32))])) t := fun t k => by
                refine XS.istore X466.here hx rfl (hb hby at_231) rfl (l' := #[.val (.long q1), .second, .val (.long q2), .second, .val (.long q3), .second, .val (.int p4), .val (.int p5), .val (.int p6), .val (.int (3 : Int32)), .val (.int s0), .val (.int s1), .val (.int s2), .val (.int la), .val (.int lb), .val (.int lc), .val (.ref b374), .val (.ref b378), .val (.int (1 : Int32)), .val (.int (1 : Int32)), .val (.int (1 : Int32))]) rfl ?_
                refine XS.iload X466.here hx rfl (hb hby at_233) rfl ?_
                refine XS.iload X466.here hx rfl (hb hby at_235) rfl ?_
                refine XS.icmpYes X466.here hx rfl (pc0 := 237) (pc' := 242) rfl (hb hby at_237) rfl (teq (by decide : (1 : Int32) = (1 : Int32))).1 (by decide) (by decide) ?_
                show Steps p.tables e below (T466.setTop (mkF m 242 #[.val (.long q1), .second, .val (.long q2), .second, .val (.long q3), .second, .val (.int p4), .val (.int p5), .val (.int p6), .val (.int (3 : Int32)), .val (.int s0), .val (.int s1), .val (.int s2), .val (.int la), .val (.int lb), .val (.int lc), .val (.ref b374), .val (.ref b378), .val (.int (1 : Int32)), .val (.int (1 : Int32)), .val (.int (1 : Int32))] [])) t
                refine XS.iload X466.here hx rfl (hb hby at_242) rfl ?_
                refine XS.ifNo X466.here hx rfl (hb hby at_244) rfl ((if0 _ _).trans (feq (by decide : ¬ ((1 : Int32) = (0 : Int32)))).1) ?_
                refine XS.aload X466.here hx rfl (hb hby at_247) rfl rfl ?_
                refine XS.iload X466.here hx rfl (hb hby at_249) rfl ?_
                show Steps p.tables e below (T466.setTop (mkF m 251 #[.val (.long q1), .second, .val (.long q2), .second, .val (.long q3), .second, .val (.int p4), .val (.int p5), .val (.int p6), .val (.int (3 : Int32)), .val (.int s0), .val (.int s1), .val (.int s2), .val (.int la), .val (.int lb), .val (.int lc), .val (.ref b374), .val (.ref b378), .val (.int (1 : Int32)), .val (.int (1 : Int32)), .val (.int (1 : Int32))] [(.int (1 : Int32)), (.ref b378)])) t
                refine XS.lload X466.here hx rfl (hb hby at_251) rfl ?_
                exact k
              refine WP.st bk467 ?_
              clear bk467
              obtain ⟨_, _, ⟨T468, L468, k468, n468⟩, -, X468, ⟨Lc468, hQ468, l468, y468, z468⟩, st468⟩ := Jvm.LawKit.callS X466 hx (y := (⟨"com/example/otayori/otayori/bench/PairTallyLatenciesPinLaw", "micros", "(J)I"⟩ : MethodName)) hown (mvT hZ (hw _ (List.mem_of_getElem? (i := 37) rfl))) (mvT hZ (hw _ (List.mem_of_getElem? (i := 38) rfl))) (mvT hZ (hw _ (List.mem_of_getElem? (i := 39) rfl))) (mvT hZ (hw _ (List.mem_of_getElem? (i := 40) rfl))) (by decide) (backOf (W := 2) (rm6 l Z a0 hw [] q3 h466 n0 Z0 ) hZ (hw _ (List.mem_of_getElem? (i := 40) rfl)) (hw _ (List.mem_of_getElem? (i := 39) rfl)) (by decide) (by decide)) (g := (mkF m 253 #[.val (.long q1), .second, .val (.long q2), .second, .val (.long q3), .second, .val (.int p4), .val (.int p5), .val (.int p6), .val (.int (3 : Int32)), .val (.int s0), .val (.int s1), .val (.int s2), .val (.int la), .val (.int lb), .val (.int lc), .val (.ref b374), .val (.ref b378), .val (.int (1 : Int32)), .val (.int (1 : Int32)), .val (.int (1 : Int32))] [(.long q3), (.int (1 : Int32)), (.ref b378)])) rfl (by rw [hml]; rfl) (argsL := [(.long q3)]) (rest := [(.int (1 : Int32)), (.ref b378)]) (lenOf pd_6 rfl) rfl (by show 2 * 0 + _ ≤ _; exact Nat.le_of_eq rfl) (hb hby at_253) (fun _ _ => ⟨rfl, e466, (by decide : 4 + 0 ≤ _), (by decide : 29 + 0 ≤ _)⟩)
              dsimp only [Pt.U, Pt.locs, Pt.cells, Pt.slots] at X468 l468 y468 z468 st468 hQ468
              subst l468 y468 z468
              obtain ⟨rfl, Nq468, Kq468⟩ := hQ468
              replace NF := Fr.app NF Nq468
              clear Nq468
              refine WP.st st468 ?_
              clear st468
              replace Kq468 := Kq468.trans (rfl : h466 = h466)
              show WP p.tables e below _ T468 (mkF m 256 #[.val (.long q1), .second, .val (.long q2), .second, .val (.long q3), .second, .val (.int p4), .val (.int p5), .val (.int p6), .val (.int (3 : Int32)), .val (.int s0), .val (.int s1), .val (.int s2), .val (.int la), .val (.int lb), .val (.int lc), .val (.ref b374), .val (.ref b378), .val (.int (1 : Int32)), .val (.int (1 : Int32)), .val (.int (1 : Int32))] [(.int (own_mic q3)), (.int (1 : Int32)), (.ref b378)])
              obtain ⟨cl469, Ar469, q469, S469, N469, H469, G469⟩ := V_b378
              have hin469 : ¬ ((1 : Int32) < 0 ∨ cl469.slots.size ≤ ((1 : Int32)).toNatClampNeg) := inb_of S469 ⟨by decide, by decide⟩
              obtain ⟨T470, h470, X470, e470, W470, st470⟩ := stI X468 hx hZ Kq468 Ar469 (j := (1 : Int32)) hin469 (g := (mkF m 256 #[.val (.long q1), .second, .val (.long q2), .second, .val (.long q3), .second, .val (.int p4), .val (.int p5), .val (.int p6), .val (.int (3 : Int32)), .val (.int s0), .val (.int s1), .val (.int s2), .val (.int la), .val (.int lb), .val (.int lc), .val (.ref b374), .val (.ref b378), .val (.int (1 : Int32)), .val (.int (1 : Int32)), .val (.int (1 : Int32))] [(.int (own_mic q3)), (.int (1 : Int32)), (.ref b378)])) rfl rfl (hb hby at_256)
              refine WP.st st470 ?_
              clear st470
              have Vn : Arv Z h470 b378 k378 .int (3 : Int32) [(.int (own_mic q1)), (.int (own_mic q3)), (.int (0 : Int32))] (.int (0 : Int32)) := Arv.set Ar469 q469 S469 N469 H469 G469 rfl W470 1 rfl (Nat.le_of_ble_eq_true rfl)
              replace E_b374 := E_b374.wr W470
              replace F_b374_highestSequence := F_b374_highestSequence.other W470 (Or.inl ne_b374_b378)
              replace F_b374_messages := F_b374_messages.other W470 (Or.inl ne_b374_b378)
              replace F_b374_delivered := F_b374_delivered.other W470 (Or.inl ne_b374_b378)
              replace F_b374_late := F_b374_late.other W470 (Or.inl ne_b374_b378)
              replace F_b374_outOfOrder := F_b374_outOfOrder.other W470 (Or.inl ne_b374_b378)
              replace F_b374_duplicated := F_b374_duplicated.other W470 (Or.inl ne_b374_b378)
              replace F_b374_lastDeliveryNanos := F_b374_lastDeliveryNanos.other W470 (Or.inl ne_b374_b378)
              replace F_b374_seen := F_b374_seen.other W470 (Or.inl ne_b374_b378)
              replace F_b374_latenciesMicros := F_b374_latenciesMicros.other W470 (Or.inl ne_b374_b378)
              replace V_ts_376 := V_ts_376.other W470 ne_ts_376_b378
              replace V_tl_376 := V_tl_376.other W470 ne_tl_376_b378
              replace Z0 := Nat.le_trans Z0 (Keep.of_wr W470).1
              replace V_b378 := Vn
              replace NF := Fr.snoc X470 NF g_b378
              clear W470 hin469 q469 S469 N469 H469 G469 Ar469
              show WP p.tables e below _ T470 (mkF m 257 #[.val (.long q1), .second, .val (.long q2), .second, .val (.long q3), .second, .val (.int p4), .val (.int p5), .val (.int p6), .val (.int (3 : Int32)), .val (.int s0), .val (.int s1), .val (.int s2), .val (.int la), .val (.int lb), .val (.int lc), .val (.ref b374), .val (.ref b378), .val (.int (1 : Int32)), .val (.int (1 : Int32)), .val (.int (1 : Int32))] [])
              have bk471 : ∀ t, Steps p.tables e below (T470.setTop (mkF m 260 #[.val (.long q1), .second, .val (.long q2), .second, .val (.long q3), .second, .val (.int p4), .val (.int p5), .val (.int p6), .val (.int (3 : Int32)), .val (.int s0), .val (.int s1), .val (.int s2), .val (.int la), .val (.int lb), .val (.int lc), .val (.ref b374), .val (.ref b378), .val (.int ((1 : Int32) + (1 : Int32))), .val (.int (1 : Int32)), .val (.int (1 : Int32))] [])) t → Steps p.tables e below (T470.setTop (mkF m 257 #[.val (.long q1), .second, .val (.long q2), .second, .val (.long q3), .second, .val (.int p4), .val (.int p5), .val (.int p6), .val (.int (3 : Int32)), .val (.int s0), .val (.int s1), .val (.int s2), .val (.int la), .val (.int lb), .val (.int lc), .val (.ref b374), .val (.ref b378), .val (.int (1 : Int32)), .val (.int (1 : Int32)), .val (.int (1 : Int32))] [])) t := fun t k => by
                refine XS.iinc X470.here hx rfl (hb hby at_257) rfl (l' := #[.val (.long q1), .second, .val (.long q2), .second, .val (.long q3), .second, .val (.int p4), .val (.int p5), .val (.int p6), .val (.int (3 : Int32)), .val (.int s0), .val (.int s1), .val (.int s2), .val (.int la), .val (.int lb), .val (.int lc), .val (.ref b374), .val (.ref b378), .val (.int ((1 : Int32) + (1 : Int32))), .val (.int (1 : Int32)), .val (.int (1 : Int32))]) rfl ?_
                exact k
              refine WP.st bk471 ?_
              clear bk471
              rw [show ((1 : Int32) + (1 : Int32)) = (2 : Int32) from by decide]
              show WP p.tables e below _ T470 (mkF m 260 #[.val (.long q1), .second, .val (.long q2), .second, .val (.long q3), .second, .val (.int p4), .val (.int p5), .val (.int p6), .val (.int (3 : Int32)), .val (.int s0), .val (.int s1), .val (.int s2), .val (.int la), .val (.int lb), .val (.int lc), .val (.ref b374), .val (.ref b378), .val (.int (2 : Int32)), .val (.int (1 : Int32)), .val (.int (1 : Int32))] [])
              have bk472 : ∀ t, Steps p.tables e below (T470.setTop (mkF m 262 #[.val (.long q1), .second, .val (.long q2), .second, .val (.long q3), .second, .val (.int p4), .val (.int p5), .val (.int p6), .val (.int (3 : Int32)), .val (.int s0), .val (.int s1), .val (.int s2), .val (.int la), .val (.int lb), .val (.int lc), .val (.ref b374), .val (.ref b378), .val (.int (2 : Int32)), .val (.int (1 : Int32)), .val (.int (1 : Int32))] [(.ref b374)])) t → Steps p.tables e below (T470.setTop (mkF m 260 #[.val (.long q1), .second, .val (.long q2), .second, .val (.long q3), .second, .val (.int p4), .val (.int p5), .val (.int p6), .val (.int (3 : Int32)), .val (.int s0), .val (.int s1), .val (.int s2), .val (.int la), .val (.int lb), .val (.int lc), .val (.ref b374), .val (.ref b378), .val (.int (2 : Int32)), .val (.int (1 : Int32)), .val (.int (1 : Int32))] [])) t := fun t k => by
                refine XS.aload X470.here hx rfl (hb hby at_260) rfl rfl ?_
                exact k
              refine WP.st bk472 ?_
              clear bk472
              obtain ⟨cq473, kq473, q473a, q473b, q473c⟩ := isOf hZ e470 E_b374
              obtain ⟨_, _, ⟨T473, L473, k473, n473⟩, -, X473, ⟨Lc473, hQ473, l473, y473, z473⟩, st473⟩ := X470.virtualBack hx (y := (⟨"com/example/otayori/otayori/bench/PairTally", "latencies", "()[I"⟩ : MethodName)) (z := (⟨"com/example/otayori/otayori/bench/PairTally", "latencies", "()[I"⟩ : MethodName)) hown (mvT hZ (hw _ (List.mem_of_getElem? (i := 48) rfl))) (mvT hZ (hw _ (List.mem_of_getElem? (i := 49) rfl))) (notFace_of_selects (args := #[]) (mvT hZ (hw _ (List.mem_of_getElem? (i := 51) rfl)))) (mvT hZ (hw _ (List.mem_of_getElem? (i := 51) rfl))) (mvT hZ (hw _ (List.mem_of_getElem? (i := 50) rfl))) (by decide) (backOf (W := 0) (rm7k2 l Z a0 hw [] b374 tl_376 kl_376 d1_466 l1_466 (.int (own_lat q1)) (.int (own_lat q3)) (.int (0 : Int32)) (.int (0 : Int32)) (.int (0 : Int32)) (.int (0 : Int32)) (.int (0 : Int32)) (.int (0 : Int32)) (.int (0 : Int32)) (.int (0 : Int32)) (.int (0 : Int32)) (.int (0 : Int32)) (.int (0 : Int32)) (.int (0 : Int32)) (.int (0 : Int32)) (.int (0 : Int32)) h470 n0 Z0 F_b374_latenciesMicros F_b374_delivered F_b374_late V_tl_376 (hde1_466 : d1_466 + l1_466 = (2 : Int64))) hZ (hw _ (List.mem_of_getElem? (i := 52) rfl)) (hw _ (List.mem_of_getElem? (i := 2) rfl)) (by decide) (by decide)) q473a q473c (g := (mkF m 262 #[.val (.long q1), .second, .val (.long q2), .second, .val (.long q3), .second, .val (.int p4), .val (.int p5), .val (.int p6), .val (.int (3 : Int32)), .val (.int s0), .val (.int s1), .val (.int s2), .val (.int la), .val (.int lb), .val (.int lc), .val (.ref b374), .val (.ref b378), .val (.int (2 : Int32)), .val (.int (1 : Int32)), .val (.int (1 : Int32))] [(.ref b374)])) rfl (by rw [hml]; rfl) (Steps.refl _) (argsL := []) (rest := []) (lenOf pd_4 rfl) rfl (by show 2 * 0 + _ ≤ _; exact Nat.le_of_eq rfl) (hb hby at_262) (fun _ _ => ⟨rfl, e470, (by decide : 4 + 1 ≤ _), (by decide : 29 + 2 ≤ _)⟩)
              dsimp only [Pt.U, Pt.locs, Pt.cells, Pt.slots] at X473 l473 y473 z473 st473 hQ473
              subst l473 y473 z473
              obtain ⟨r_473, kr_473, rfl, Nq473, Kq473, szq_r_473, nA473_r_473⟩ := hQ473
              replace NF := Fr.app NF Nq473
              clear Nq473
              refine WP.tr st473 ?_
              clear st473
              obtain ⟨h473, e473⟩ : ∃ h, T473.heap = h := ⟨_, rfl⟩
              rw [e473] at Kq473 nA473_r_473
              have ne_b374_r_473 : b374 ≠ r_473 := Nat.ne_of_lt (Nat.lt_of_lt_of_le E_b374.lt szq_r_473)
              have ne_ts_376_r_473 : ts_376 ≠ r_473 := Nat.ne_of_lt (Nat.lt_of_lt_of_le V_ts_376.lt szq_r_473)
              have ne_tl_376_r_473 : tl_376 ≠ r_473 := Nat.ne_of_lt (Nat.lt_of_lt_of_le V_tl_376.lt szq_r_473)
              have ne_b378_r_473 : b378 ≠ r_473 := Nat.ne_of_lt (Nat.lt_of_lt_of_le V_b378.lt szq_r_473)
              replace E_b374 := E_b374.keep Kq473
              replace F_b374_highestSequence := F_b374_highestSequence.keep Kq473 (by exact nin0)
              replace F_b374_messages := F_b374_messages.keep Kq473 (by exact nin0)
              replace F_b374_delivered := F_b374_delivered.keep Kq473 (by exact nin0)
              replace F_b374_late := F_b374_late.keep Kq473 (by exact nin0)
              replace F_b374_outOfOrder := F_b374_outOfOrder.keep Kq473 (by exact nin0)
              replace F_b374_duplicated := F_b374_duplicated.keep Kq473 (by exact nin0)
              replace F_b374_lastDeliveryNanos := F_b374_lastDeliveryNanos.keep Kq473 (by exact nin0)
              replace F_b374_seen := F_b374_seen.keep Kq473 (by exact nin0)
              replace F_b374_latenciesMicros := F_b374_latenciesMicros.keep Kq473 (by exact nin0)
              replace V_ts_376 := V_ts_376.keep Kq473 (by exact nin0)
              replace V_tl_376 := V_tl_376.keep Kq473 (by exact nin0)
              replace V_b378 := V_b378.keep Kq473 (by exact nin0)
              replace Z0 := Nat.le_trans Z0 Kq473.1
              clear Kq473
              have V_r_473 := nA473_r_473
              clear nA473_r_473
              show WP p.tables e below _ T473 (mkF m 265 #[.val (.long q1), .second, .val (.long q2), .second, .val (.long q3), .second, .val (.int p4), .val (.int p5), .val (.int p6), .val (.int (3 : Int32)), .val (.int s0), .val (.int s1), .val (.int s2), .val (.int la), .val (.int lb), .val (.int lc), .val (.ref b374), .val (.ref b378), .val (.int (2 : Int32)), .val (.int (1 : Int32)), .val (.int (1 : Int32))] [(.ref r_473)])
              have bk474 : ∀ t, Steps p.tables e below (T473.setTop (mkF m 269 #[.val (.long q1), .second, .val (.long q2), .second, .val (.long q3), .second, .val (.int p4), .val (.int p5), .val (.int p6), .val (.int (3 : Int32)), .val (.int s0), .val (.int s1), .val (.int s2), .val (.int la), .val (.int lb), .val (.int lc), .val (.ref b374), .val (.ref b378), .val (.int (2 : Int32)), .val (.ref r_473), .val (.int (1 : Int32))] [(.ref r_473)])) t → Steps p.tables e below (T473.setTop (mkF m 265 #[.val (.long q1), .second, .val (.long q2), .second, .val (.long q3), .second, .val (.int p4), .val (.int p5), .val (.int p6), .val (.int (3 : Int32)), .val (.int s0), .val (.int s1), .val (.int s2), .val (.int la), .val (.int lb), .val (.int lc), .val (.ref b374), .val (.ref b378), .val (.int (2 : Int32)), .val (.int (1 : Int32)), .val (.int (1 : Int32))] [(.ref r_473)])) t := fun t k => by
                refine XS.astore X473.here hx rfl (hb hby at_265) rfl rfl (l' := #[.val (.long q1), .second, .val (.long q2), .second, .val (.long q3), .second, .val (.int p4), .val (.int p5), .val (.int p6), .val (.int (3 : Int32)), .val (.int s0), .val (.int s1), .val (.int s2), .val (.int la), .val (.int lb), .val (.int lc), .val (.ref b374), .val (.ref b378), .val (.int (2 : Int32)), .val (.ref r_473), .val (.int (1 : Int32))]) rfl ?_
                refine XS.aload X473.here hx rfl (hb hby at_267) rfl rfl ?_
                exact k
              refine WP.st bk474 ?_
              clear bk474
              obtain ⟨cl475, Ar475, len475⟩ := V_r_473.len
              have bk476 : ∀ t, Steps p.tables e below (T473.setTop (mkF m 286 #[.val (.long q1), .second, .val (.long q2), .second, .val (.long q3), .second, .val (.int p4), .val (.int p5), .val (.int p6), .val (.int (3 : Int32)), .val (.int s0), .val (.int s1), .val (.int s2), .val (.int la), .val (.int lb), .val (.int lc), .val (.ref b374), .val (.ref b378), .val (.int (2 : Int32)), .val (.ref r_473), .val (.int (1 : Int32))] [(.int (0 : Int32)), (.ref r_473)])) t → Steps p.tables e below (T473.setTop (mkF m 269 #[.val (.long q1), .second, .val (.long q2), .second, .val (.long q3), .second, .val (.int p4), .val (.int p5), .val (.int p6), .val (.int (3 : Int32)), .val (.int s0), .val (.int s1), .val (.int s2), .val (.int la), .val (.int lb), .val (.int lc), .val (.ref b374), .val (.ref b378), .val (.int (2 : Int32)), .val (.ref r_473), .val (.int (1 : Int32))] [(.ref r_473)])) t := fun t k => by
                refine X473.arraylength hx (by rw [e473]; exact Ar475.1) (State.isArrayOf_alike hZ.alike Ar475.2.1) (g := (mkF m 269 #[.val (.long q1), .second, .val (.long q2), .second, .val (.long q3), .second, .val (.int p4), .val (.int p5), .val (.int p6), .val (.int (3 : Int32)), .val (.int s0), .val (.int s1), .val (.int s2), .val (.int la), .val (.int lb), .val (.int lc), .val (.ref b374), .val (.ref b378), .val (.int (2 : Int32)), .val (.ref r_473), .val (.int (1 : Int32))] [(.ref r_473)])) rfl rfl (hb hby at_269) _ ?_
                rw [len475]
                refine XS.iload X473.here hx rfl (hb hby at_270) rfl ?_
                refine XS.icmpYes X473.here hx rfl (pc0 := 272) (pc' := 277) rfl (hb hby at_272) rfl (teq (by decide : (2 : Int32) = (2 : Int32))).1 (by decide) (by decide) ?_
                refine XS.iload X473.here hx rfl (hb hby at_277) rfl ?_
                show Steps p.tables e below (T473.setTop (mkF m 279 #[.val (.long q1), .second, .val (.long q2), .second, .val (.long q3), .second, .val (.int p4), .val (.int p5), .val (.int p6), .val (.int (3 : Int32)), .val (.int s0), .val (.int s1), .val (.int s2), .val (.int la), .val (.int lb), .val (.int lc), .val (.ref b374), .val (.ref b378), .val (.int (2 : Int32)), .val (.ref r_473), .val (.int (1 : Int32))] [(.int (2 : Int32))])) t
                refine XS.iconst X473.here hx rfl (hb hby at_279) ?_
                refine XS.icmpNo X473.here hx rfl (hb hby at_280) rfl (flt (by decide : ¬ ((2 : Int32) < (1 : Int32)))).1 ?_
                refine XS.aload X473.here hx rfl (hb hby at_283) rfl rfl ?_
                refine XS.iconst X473.here hx rfl (hb hby at_285) ?_
                exact k
              refine WP.st bk476 ?_
              clear bk476
              obtain ⟨cl477, Ar477, hin477, hat477, -⟩ := V_r_473.rd (j := (0 : Int32)) ⟨by decide, by decide⟩
              replace hat477 : cl477.slots[((0 : Int32)).toNatClampNeg]? = some (.int (own_lat q1)) := hat477
              have bk478 : ∀ t, Steps p.tables e below (T473.setTop (mkF m 290 #[.val (.long q1), .second, .val (.long q2), .second, .val (.long q3), .second, .val (.int p4), .val (.int p5), .val (.int p6), .val (.int (3 : Int32)), .val (.int s0), .val (.int s1), .val (.int s2), .val (.int la), .val (.int lb), .val (.int lc), .val (.ref b374), .val (.ref b378), .val (.int (2 : Int32)), .val (.ref r_473), .val (.int (1 : Int32))] [(.int (0 : Int32)), (.ref b378), (.int (own_lat q1))])) t → Steps p.tables e below (T473.setTop (mkF m 286 #[.val (.long q1), .second, .val (.long q2), .second, .val (.long q3), .second, .val (.int p4), .val (.int p5), .val (.int p6), .val (.int (3 : Int32)), .val (.int s0), .val (.int s1), .val (.int s2), .val (.int la), .val (.int lb), .val (.int lc), .val (.ref b374), .val (.ref b378), .val (.int (2 : Int32)), .val (.ref r_473), .val (.int (1 : Int32))] [(.int (0 : Int32)), (.ref r_473)])) t := fun t k => by
                refine X473.iaload hx (j := (0 : Int32)) (v := (.int (own_lat q1))) (by rw [e473]; exact Ar477.1) (State.isArrayOf_alike hZ.alike Ar477.2.1) Ar477.2.2 hin477 hat477 (g := (mkF m 286 #[.val (.long q1), .second, .val (.long q2), .second, .val (.long q3), .second, .val (.int p4), .val (.int p5), .val (.int p6), .val (.int (3 : Int32)), .val (.int s0), .val (.int s1), .val (.int s2), .val (.int la), .val (.int lb), .val (.int lc), .val (.ref b374), .val (.ref b378), .val (.int (2 : Int32)), .val (.ref r_473), .val (.int (1 : Int32))] [(.int (0 : Int32)), (.ref r_473)])) rfl rfl (hb hby at_286) _ ?_
                refine XS.aload X473.here hx rfl (hb hby at_287) rfl rfl ?_
                refine XS.iconst X473.here hx rfl (hb hby at_289) ?_
                exact k
              refine WP.st bk478 ?_
              clear bk478
              obtain ⟨cl479, Ar479, hin479, hat479, -⟩ := V_b378.rd (j := (0 : Int32)) ⟨by decide, by decide⟩
              replace hat479 : cl479.slots[((0 : Int32)).toNatClampNeg]? = some (.int (own_mic q1)) := hat479
              have bk480 : ∀ t, Steps p.tables e below (T473.setTop (mkF m 305 #[.val (.long q1), .second, .val (.long q2), .second, .val (.long q3), .second, .val (.int p4), .val (.int p5), .val (.int p6), .val (.int (3 : Int32)), .val (.int s0), .val (.int s1), .val (.int s2), .val (.int la), .val (.int lb), .val (.int lc), .val (.ref b374), .val (.ref b378), .val (.int (2 : Int32)), .val (.ref r_473), .val (.int (1 : Int32))] [(.int (1 : Int32)), (.ref r_473)])) t → Steps p.tables e below (T473.setTop (mkF m 290 #[.val (.long q1), .second, .val (.long q2), .second, .val (.long q3), .second, .val (.int p4), .val (.int p5), .val (.int p6), .val (.int (3 : Int32)), .val (.int s0), .val (.int s1), .val (.int s2), .val (.int la), .val (.int lb), .val (.int lc), .val (.ref b374), .val (.ref b378), .val (.int (2 : Int32)), .val (.ref r_473), .val (.int (1 : Int32))] [(.int (0 : Int32)), (.ref b378), (.int (own_lat q1))])) t := fun t k => by
                refine X473.iaload hx (j := (0 : Int32)) (v := (.int (own_mic q1))) (by rw [e473]; exact Ar479.1) (State.isArrayOf_alike hZ.alike Ar479.2.1) Ar479.2.2 hin479 hat479 (g := (mkF m 290 #[.val (.long q1), .second, .val (.long q2), .second, .val (.long q3), .second, .val (.int p4), .val (.int p5), .val (.int p6), .val (.int (3 : Int32)), .val (.int s0), .val (.int s1), .val (.int s2), .val (.int la), .val (.int lb), .val (.int lc), .val (.ref b374), .val (.ref b378), .val (.int (2 : Int32)), .val (.ref r_473), .val (.int (1 : Int32))] [(.int (0 : Int32)), (.ref b378), (.int (own_lat q1))])) rfl rfl (hb hby at_290) _ ?_
                refine XS.icmpYes X473.here hx rfl (pc0 := 291) (pc' := 296) rfl (hb hby at_291) rfl (teq (own_lm q1)).1 (by decide) (by decide) ?_
                refine XS.iload X473.here hx rfl (hb hby at_296) rfl ?_
                refine XS.iconst X473.here hx rfl (hb hby at_298) ?_
                show Steps p.tables e below (T473.setTop (mkF m 299 #[.val (.long q1), .second, .val (.long q2), .second, .val (.long q3), .second, .val (.int p4), .val (.int p5), .val (.int p6), .val (.int (3 : Int32)), .val (.int s0), .val (.int s1), .val (.int s2), .val (.int la), .val (.int lb), .val (.int lc), .val (.ref b374), .val (.ref b378), .val (.int (2 : Int32)), .val (.ref r_473), .val (.int (1 : Int32))] [(.int (2 : Int32)), (.int (2 : Int32))])) t
                refine XS.icmpNo X473.here hx rfl (hb hby at_299) rfl (flt (by decide : ¬ ((2 : Int32) < (2 : Int32)))).1 ?_
                refine XS.aload X473.here hx rfl (hb hby at_302) rfl rfl ?_
                refine XS.iconst X473.here hx rfl (hb hby at_304) ?_
                exact k
              refine WP.st bk480 ?_
              clear bk480
              obtain ⟨cl481, Ar481, hin481, hat481, -⟩ := V_r_473.rd (j := (1 : Int32)) ⟨by decide, by decide⟩
              replace hat481 : cl481.slots[((1 : Int32)).toNatClampNeg]? = some (.int (own_lat q3)) := hat481
              have bk482 : ∀ t, Steps p.tables e below (T473.setTop (mkF m 309 #[.val (.long q1), .second, .val (.long q2), .second, .val (.long q3), .second, .val (.int p4), .val (.int p5), .val (.int p6), .val (.int (3 : Int32)), .val (.int s0), .val (.int s1), .val (.int s2), .val (.int la), .val (.int lb), .val (.int lc), .val (.ref b374), .val (.ref b378), .val (.int (2 : Int32)), .val (.ref r_473), .val (.int (1 : Int32))] [(.int (1 : Int32)), (.ref b378), (.int (own_lat q3))])) t → Steps p.tables e below (T473.setTop (mkF m 305 #[.val (.long q1), .second, .val (.long q2), .second, .val (.long q3), .second, .val (.int p4), .val (.int p5), .val (.int p6), .val (.int (3 : Int32)), .val (.int s0), .val (.int s1), .val (.int s2), .val (.int la), .val (.int lb), .val (.int lc), .val (.ref b374), .val (.ref b378), .val (.int (2 : Int32)), .val (.ref r_473), .val (.int (1 : Int32))] [(.int (1 : Int32)), (.ref r_473)])) t := fun t k => by
                refine X473.iaload hx (j := (1 : Int32)) (v := (.int (own_lat q3))) (by rw [e473]; exact Ar481.1) (State.isArrayOf_alike hZ.alike Ar481.2.1) Ar481.2.2 hin481 hat481 (g := (mkF m 305 #[.val (.long q1), .second, .val (.long q2), .second, .val (.long q3), .second, .val (.int p4), .val (.int p5), .val (.int p6), .val (.int (3 : Int32)), .val (.int s0), .val (.int s1), .val (.int s2), .val (.int la), .val (.int lb), .val (.int lc), .val (.ref b374), .val (.ref b378), .val (.int (2 : Int32)), .val (.ref r_473), .val (.int (1 : Int32))] [(.int (1 : Int32)), (.ref r_473)])) rfl rfl (hb hby at_305) _ ?_
                refine XS.aload X473.here hx rfl (hb hby at_306) rfl rfl ?_
                refine XS.iconst X473.here hx rfl (hb hby at_308) ?_
                exact k
              refine WP.st bk482 ?_
              clear bk482
              obtain ⟨cl483, Ar483, hin483, hat483, -⟩ := V_b378.rd (j := (1 : Int32)) ⟨by decide, by decide⟩
              replace hat483 : cl483.slots[((1 : Int32)).toNatClampNeg]? = some (.int (own_mic q3)) := hat483
              have bk484 : ∀ t, Steps p.tables e below (T473.setTop (mkF m 335 #[.val (.long q1), .second, .val (.long q2), .second, .val (.long q3), .second, .val (.int p4), .val (.int p5), .val (.int p6), .val (.int (3 : Int32)), .val (.int s0), .val (.int s1), .val (.int s2), .val (.int la), .val (.int lb), .val (.int lc), .val (.ref b374), .val (.ref b378), .val (.int (2 : Int32)), .val (.ref r_473), .val (.int (1 : Int32))] [(.int (1 : Int32))])) t → Steps p.tables e below (T473.setTop (mkF m 309 #[.val (.long q1), .second, .val (.long q2), .second, .val (.long q3), .second, .val (.int p4), .val (.int p5), .val (.int p6), .val (.int (3 : Int32)), .val (.int s0), .val (.int s1), .val (.int s2), .val (.int la), .val (.int lb), .val (.int lc), .val (.ref b374), .val (.ref b378), .val (.int (2 : Int32)), .val (.ref r_473), .val (.int (1 : Int32))] [(.int (1 : Int32)), (.ref b378), (.int (own_lat q3))])) t := fun t k => by
                refine X473.iaload hx (j := (1 : Int32)) (v := (.int (own_mic q3))) (by rw [e473]; exact Ar483.1) (State.isArrayOf_alike hZ.alike Ar483.2.1) Ar483.2.2 hin483 hat483 (g := (mkF m 309 #[.val (.long q1), .second, .val (.long q2), .second, .val (.long q3), .second, .val (.int p4), .val (.int p5), .val (.int p6), .val (.int (3 : Int32)), .val (.int s0), .val (.int s1), .val (.int s2), .val (.int la), .val (.int lb), .val (.int lc), .val (.ref b374), .val (.ref b378), .val (.int (2 : Int32)), .val (.ref r_473), .val (.int (1 : Int32))] [(.int (1 : Int32)), (.ref b378), (.int (own_lat q3))])) rfl rfl (hb hby at_309) _ ?_
                refine XS.icmpYes X473.here hx rfl (pc0 := 310) (pc' := 315) rfl (hb hby at_310) rfl (teq (own_lm q3)).1 (by decide) (by decide) ?_
                refine XS.iload X473.here hx rfl (hb hby at_315) rfl ?_
                refine XS.iconst X473.here hx rfl (hb hby at_317) ?_
                show Steps p.tables e below (T473.setTop (mkF m 318 #[.val (.long q1), .second, .val (.long q2), .second, .val (.long q3), .second, .val (.int p4), .val (.int p5), .val (.int p6), .val (.int (3 : Int32)), .val (.int s0), .val (.int s1), .val (.int s2), .val (.int la), .val (.int lb), .val (.int lc), .val (.ref b374), .val (.ref b378), .val (.int (2 : Int32)), .val (.ref r_473), .val (.int (1 : Int32))] [(.int (3 : Int32)), (.int (2 : Int32))])) t
                refine XS.icmpYes X473.here hx rfl (pc0 := 318) (pc' := 334) rfl (hb hby at_318) rfl (tlt (by decide : (2 : Int32) < (3 : Int32))).1 (by decide) (by decide) ?_
                refine XS.iconst X473.here hx rfl (hb hby at_334) ?_
                exact k
              refine WP.st bk484 ?_
              clear bk484
              subst hG
              obtain ⟨fs, hr, hrun, hended, hW, hsame⟩ := X473.leave (v := some (.int (1 : Int32))) (fun h => by rw [Bd.returns] at h; cases h)
              refine WP.fin ⟨_, _, ?_, hrun, hended, _, _, rfl, ?_, ⟨_, rfl⟩, hW, hsame.mono (by decide) (by decide)⟩
              · exact retN X473 hx (t := .boolean) Bd.returns (by simp) (hb hby at_335) hr
              · show Q0 Z q1 q2 q3 p4 p5 p6 h0 n0 _ T473.heap _
                rw [e473]
                exact ⟨rfl, NF⟩
          · skip
            have bk485 : ∀ t, Steps p.tables e below (T446.setTop (mkF m 159 #[.val (.long q1), .second, .val (.long q2), .second, .val (.long q3), .second, .val (.int p4), .val (.int p5), .val (.int p6), .val (.int (3 : Int32)), .val (.int s0), .val (.int s1), .val (.int s2), .val (.int la), .val (.int lb), .val (.int lc), .val (.ref b374), .val (.ref b378), .val (.int (1 : Int32)), .val (.int (1 : Int32)), .unset] [(.int lb), (.long (1 : Int64)), (.long q2), (.int s1), (.ref b374)])) t → Steps p.tables e below (T446.setTop (mkF m 141 #[.val (.long q1), .second, .val (.long q2), .second, .val (.long q3), .second, .val (.int p4), .val (.int p5), .val (.int p6), .val (.int (3 : Int32)), .val (.int s0), .val (.int s1), .val (.int s2), .val (.int la), .val (.int lb), .val (.int lc), .val (.ref b374), .val (.ref b378), .val (.int (1 : Int32)), .val (.int (1 : Int32)), .unset] [(.int s0), (.int s1)])) t := fun t k => by
              refine XS.icmpNo X446.here hx rfl (hb hby at_141) rfl (feq hc448).1 ?_
              refine XS.iconst X446.here hx rfl (hb hby at_144) ?_
              refine XS.goto X446.here hx rfl (pc0 := 145) (pc' := 149) rfl (hb hby at_145) (by decide) (by decide) ?_
              refine XS.istore X446.here hx rfl (hb hby at_149) rfl (l' := #[.val (.long q1), .second, .val (.long q2), .second, .val (.long q3), .second, .val (.int p4), .val (.int p5), .val (.int p6), .val (.int (3 : Int32)), .val (.int s0), .val (.int s1), .val (.int s2), .val (.int la), .val (.int lb), .val (.int lc), .val (.ref b374), .val (.ref b378), .val (.int (1 : Int32)), .val (.int (1 : Int32)), .unset]) rfl ?_
              show Steps p.tables e below (T446.setTop (mkF m 151 #[.val (.long q1), .second, .val (.long q2), .second, .val (.long q3), .second, .val (.int p4), .val (.int p5), .val (.int p6), .val (.int (3 : Int32)), .val (.int s0), .val (.int s1), .val (.int s2), .val (.int la), .val (.int lb), .val (.int lc), .val (.ref b374), .val (.ref b378), .val (.int (1 : Int32)), .val (.int (1 : Int32)), .unset] [])) t
              refine XS.aload X446.here hx rfl (hb hby at_151) rfl rfl ?_
              refine XS.iload X446.here hx rfl (hb hby at_153) rfl ?_
              refine XS.lloadN X446.here hx rfl (hb hby at_155) rfl ?_
              refine XS.lconst X446.here hx rfl (hb hby at_156) ?_
              show Steps p.tables e below (T446.setTop (mkF m 157 #[.val (.long q1), .second, .val (.long q2), .second, .val (.long q3), .second, .val (.int p4), .val (.int p5), .val (.int p6), .val (.int (3 : Int32)), .val (.int s0), .val (.int s1), .val (.int s2), .val (.int la), .val (.int lb), .val (.int lc), .val (.ref b374), .val (.ref b378), .val (.int (1 : Int32)), .val (.int (1 : Int32)), .unset] [(.long (1 : Int64)), (.long q2), (.int s1), (.ref b374)])) t
              refine XS.iload X446.here hx rfl (hb hby at_157) rfl ?_
              exact k
            refine WP.st bk485 ?_
            clear bk485
            obtain ⟨cq486, kq486, q486a, q486b, q486c⟩ := isOf hZ e446 E_b374
            obtain ⟨_, _, ⟨T486, L486, k486, n486⟩, -, X486, ⟨Lc486, hQ486, l486, y486, z486⟩, st486⟩ := X446.virtualBack hx (y := (⟨"com/example/otayori/otayori/bench/PairTally", "record", "(IJJZ)Z"⟩ : MethodName)) (z := (⟨"com/example/otayori/otayori/bench/PairTally", "record", "(IJJZ)Z"⟩ : MethodName)) hown (mvT hZ (hw _ (List.mem_of_getElem? (i := 19) rfl))) (mvT hZ (hw _ (List.mem_of_getElem? (i := 20) rfl))) (notFace_of_selects (args := #[]) (mvT hZ (hw _ (List.mem_of_getElem? (i := 22) rfl)))) (mvT hZ (hw _ (List.mem_of_getElem? (i := 22) rfl))) (mvT hZ (hw _ (List.mem_of_getElem? (i := 21) rfl))) (by decide) (backOf (W := 0) (rm3f1 l Z a0 hw [] b374 s1 q2 (1 : Int64) lb s1_442 (8 : Int32) d1_442 l1_442 o1_442 (0 : Int64) n1_442 ts_376 ks_376 tl_376 kl_376 ((0 : Int64) ||| (own_bit s0)) (.int (own_lat q1)) (.int (0 : Int32)) (.int (0 : Int32)) (.int (0 : Int32)) (.int (0 : Int32)) (.int (0 : Int32)) (.int (0 : Int32)) (.int (0 : Int32)) (.int (0 : Int32)) (.int (0 : Int32)) (.int (0 : Int32)) (.int (0 : Int32)) (.int (0 : Int32)) (.int (0 : Int32)) (.int (0 : Int32)) (.int (0 : Int32)) h446 n0 Z0 E_b374 g_b374 F_b374_highestSequence F_b374_messages F_b374_delivered F_b374_late F_b374_outOfOrder F_b374_duplicated F_b374_lastDeliveryNanos F_b374_seen F_b374_latenciesMicros V_ts_376 V_tl_376 g_ts_376 g_tl_376 ne_b374_ts_376 ne_b374_tl_376 ne_tl_376_ts_376 (hs1 : own_small s1) ((lw_eq _ _).2 ((own_b1 hs0 hs1).2 hc448)) (hde1_442 : d1_442 + l1_442 = (1 : Int64))) hZ (hw _ (List.mem_of_getElem? (i := 23) rfl)) (hw _ (List.mem_of_getElem? (i := 2) rfl)) (by decide) (by decide)) q486a q486c (g := (mkF m 159 #[.val (.long q1), .second, .val (.long q2), .second, .val (.long q3), .second, .val (.int p4), .val (.int p5), .val (.int p6), .val (.int (3 : Int32)), .val (.int s0), .val (.int s1), .val (.int s2), .val (.int la), .val (.int lb), .val (.int lc), .val (.ref b374), .val (.ref b378), .val (.int (1 : Int32)), .val (.int (1 : Int32)), .unset] [(.int lb), (.long (1 : Int64)), (.long q2), (.int s1), (.ref b374)])) rfl (by rw [hml]; rfl) (Steps.refl _) (argsL := [(.int s1), (.long q2), (.long (1 : Int64)), (.int lb)]) (rest := []) (lenOf pd_5 rfl) rfl (by show 2 * 0 + _ ≤ _; exact Nat.le_of_eq rfl) (hb hby at_159) (fun _ _ => ⟨rfl, e446, (by decide : 4 + 0 ≤ _), (by decide : 29 + 0 ≤ _)⟩)
            dsimp only [Pt.U, Pt.locs, Pt.cells, Pt.slots] at X486 l486 y486 z486 st486 hQ486
            subst l486 y486 z486
            obtain ⟨d1_486, l1_486, s1_486, o1_486, n1_486, rfl, Nq486, Kq486, nF486_b374_highestSequence, nF486_b374_messages, nF486_b374_delivered, nF486_b374_late, nF486_b374_outOfOrder, nF486_b374_duplicated, nF486_b374_lastDeliveryNanos, nF486_b374_seen, nF486_b374_latenciesMicros, nA486_ts_376, nA486_tl_376, hde1_486⟩ := hQ486
            replace NF := Fr.app NF Nq486
            clear Nq486
            refine WP.tr st486 ?_
            clear st486
            obtain ⟨h486, e486⟩ : ∃ h, T486.heap = h := ⟨_, rfl⟩
            rw [e486] at Kq486 nF486_b374_highestSequence nF486_b374_messages nF486_b374_delivered nF486_b374_late nF486_b374_outOfOrder nF486_b374_duplicated nF486_b374_lastDeliveryNanos nF486_b374_seen nF486_b374_latenciesMicros nA486_ts_376 nA486_tl_376
            replace E_b374 := E_b374.keep Kq486
            clear F_b374_highestSequence
            clear F_b374_messages
            clear F_b374_delivered
            clear F_b374_late
            clear F_b374_outOfOrder
            clear F_b374_duplicated
            clear F_b374_lastDeliveryNanos
            clear F_b374_seen
            clear F_b374_latenciesMicros
            clear V_ts_376
            clear V_tl_376
            replace V_b378 := V_b378.keep Kq486 (by exact ninS (Ne.symm ne_b374_b378) (ninS (Ne.symm ne_ts_376_b378) (ninS (Ne.symm ne_tl_376_b378) (nin0))))
            replace Z0 := Nat.le_trans Z0 Kq486.1
            clear Kq486
            have F_b374_highestSequence := nF486_b374_highestSequence
            clear nF486_b374_highestSequence
            have F_b374_messages := nF486_b374_messages
            clear nF486_b374_messages
            have F_b374_delivered := nF486_b374_delivered
            clear nF486_b374_delivered
            have F_b374_late := nF486_b374_late
            clear nF486_b374_late
            have F_b374_outOfOrder := nF486_b374_outOfOrder
            clear nF486_b374_outOfOrder
            have F_b374_duplicated := nF486_b374_duplicated
            clear nF486_b374_duplicated
            have F_b374_lastDeliveryNanos := nF486_b374_lastDeliveryNanos
            clear nF486_b374_lastDeliveryNanos
            have F_b374_seen := nF486_b374_seen
            clear nF486_b374_seen
            have F_b374_latenciesMicros := nF486_b374_latenciesMicros
            clear nF486_b374_latenciesMicros
            have V_ts_376 := nA486_ts_376
            clear nA486_ts_376
            have V_tl_376 := nA486_tl_376
            clear nA486_tl_376
            show WP p.tables e below _ T486 (mkF m 162 #[.val (.long q1), .second, .val (.long q2), .second, .val (.long q3), .second, .val (.int p4), .val (.int p5), .val (.int p6), .val (.int (3 : Int32)), .val (.int s0), .val (.int s1), .val (.int s2), .val (.int la), .val (.int lb), .val (.int lc), .val (.ref b374), .val (.ref b378), .val (.int (1 : Int32)), .val (.int (1 : Int32)), .unset] [(.int (1 : Int32))])
            have bk487 : ∀ t, Steps p.tables e below (T486.setTop (mkF m 183 #[.val (.long q1), .second, .val (.long q2), .second, .val (.long q3), .second, .val (.int p4), .val (.int p5), .val (.int p6), .val (.int (3 : Int32)), .val (.int s0), .val (.int s1), .val (.int s2), .val (.int la), .val (.int lb), .val (.int lc), .val (.ref b374), .val (.ref b378), .val (.int (1 : Int32)), .val (.int (1 : Int32)), .val (.int (1 : Int32))] [(.long q2), (.int (1 : Int32)), (.ref b378)])) t → Steps p.tables e below (T486.setTop (mkF m 162 #[.val (.long q1), .second, .val (.long q2), .second, .val (.long q3), .second, .val (.int p4), .val (.int p5), .val (.int p6), .val (.int (3 : Int32)), .val (.int s0), .val (.int s1), .val (.int s2), .val (.int la), .val (.int lb), .val (.int lc), .val (.ref b374), .val (.ref b378), .val (.int (1 : Int32)), .val (.int (1 : Int32)), .unset] [(.int (1 : Int32))])) t := fun t k => by
              refine XS.istore X486.here hx rfl (hb hby at_162) rfl (l' := #[.val (.long q1), .second, .val (.long q2), .second, .val (.long q3), .second, .val (.int p4), .val (.int p5), .val (.int p6), .val (.int (3 : Int32)), .val (.int s0), .val (.int s1), .val (.int s2), .val (.int la), .val (.int lb), .val (.int lc), .val (.ref b374), .val (.ref b378), .val (.int (1 : Int32)), .val (.int (1 : Int32)), .val (.int (1 : Int32))]) rfl ?_
              refine XS.iload X486.here hx rfl (hb hby at_164) rfl ?_
              refine XS.iload X486.here hx rfl (hb hby at_166) rfl ?_
              refine XS.icmpYes X486.here hx rfl (pc0 := 168) (pc' := 173) rfl (hb hby at_168) rfl (teq (by decide : (1 : Int32) = (1 : Int32))).1 (by decide) (by decide) ?_
              show Steps p.tables e below (T486.setTop (mkF m 173 #[.val (.long q1), .second, .val (.long q2), .second, .val (.long q3), .second, .val (.int p4), .val (.int p5), .val (.int p6), .val (.int (3 : Int32)), .val (.int s0), .val (.int s1), .val (.int s2), .val (.int la), .val (.int lb), .val (.int lc), .val (.ref b374), .val (.ref b378), .val (.int (1 : Int32)), .val (.int (1 : Int32)), .val (.int (1 : Int32))] [])) t
              refine XS.iload X486.here hx rfl (hb hby at_173) rfl ?_
              refine XS.ifNo X486.here hx rfl (hb hby at_175) rfl ((if0 _ _).trans (feq (by decide : ¬ ((1 : Int32) = (0 : Int32)))).1) ?_
              refine XS.aload X486.here hx rfl (hb hby at_178) rfl rfl ?_
              refine XS.iload X486.here hx rfl (hb hby at_180) rfl ?_
              show Steps p.tables e below (T486.setTop (mkF m 182 #[.val (.long q1), .second, .val (.long q2), .second, .val (.long q3), .second, .val (.int p4), .val (.int p5), .val (.int p6), .val (.int (3 : Int32)), .val (.int s0), .val (.int s1), .val (.int s2), .val (.int la), .val (.int lb), .val (.int lc), .val (.ref b374), .val (.ref b378), .val (.int (1 : Int32)), .val (.int (1 : Int32)), .val (.int (1 : Int32))] [(.int (1 : Int32)), (.ref b378)])) t
              refine XS.lloadN X486.here hx rfl (hb hby at_182) rfl ?_
              exact k
            refine WP.st bk487 ?_
            clear bk487
            obtain ⟨_, _, ⟨T488, L488, k488, n488⟩, -, X488, ⟨Lc488, hQ488, l488, y488, z488⟩, st488⟩ := Jvm.LawKit.callS X486 hx (y := (⟨"com/example/otayori/otayori/bench/PairTallyLatenciesPinLaw", "micros", "(J)I"⟩ : MethodName)) hown (mvT hZ (hw _ (List.mem_of_getElem? (i := 37) rfl))) (mvT hZ (hw _ (List.mem_of_getElem? (i := 38) rfl))) (mvT hZ (hw _ (List.mem_of_getElem? (i := 39) rfl))) (mvT hZ (hw _ (List.mem_of_getElem? (i := 40) rfl))) (by decide) (backOf (W := 2) (rm6 l Z a0 hw [] q2 h486 n0 Z0 ) hZ (hw _ (List.mem_of_getElem? (i := 40) rfl)) (hw _ (List.mem_of_getElem? (i := 39) rfl)) (by decide) (by decide)) (g := (mkF m 183 #[.val (.long q1), .second, .val (.long q2), .second, .val (.long q3), .second, .val (.int p4), .val (.int p5), .val (.int p6), .val (.int (3 : Int32)), .val (.int s0), .val (.int s1), .val (.int s2), .val (.int la), .val (.int lb), .val (.int lc), .val (.ref b374), .val (.ref b378), .val (.int (1 : Int32)), .val (.int (1 : Int32)), .val (.int (1 : Int32))] [(.long q2), (.int (1 : Int32)), (.ref b378)])) rfl (by rw [hml]; rfl) (argsL := [(.long q2)]) (rest := [(.int (1 : Int32)), (.ref b378)]) (lenOf pd_6 rfl) rfl (by show 2 * 0 + _ ≤ _; exact Nat.le_of_eq rfl) (hb hby at_183) (fun _ _ => ⟨rfl, e486, (by decide : 4 + 0 ≤ _), (by decide : 29 + 0 ≤ _)⟩)
            dsimp only [Pt.U, Pt.locs, Pt.cells, Pt.slots] at X488 l488 y488 z488 st488 hQ488
            subst l488 y488 z488
            obtain ⟨rfl, Nq488, Kq488⟩ := hQ488
            replace NF := Fr.app NF Nq488
            clear Nq488
            refine WP.st st488 ?_
            clear st488
            replace Kq488 := Kq488.trans (rfl : h486 = h486)
            show WP p.tables e below _ T488 (mkF m 186 #[.val (.long q1), .second, .val (.long q2), .second, .val (.long q3), .second, .val (.int p4), .val (.int p5), .val (.int p6), .val (.int (3 : Int32)), .val (.int s0), .val (.int s1), .val (.int s2), .val (.int la), .val (.int lb), .val (.int lc), .val (.ref b374), .val (.ref b378), .val (.int (1 : Int32)), .val (.int (1 : Int32)), .val (.int (1 : Int32))] [(.int (own_mic q2)), (.int (1 : Int32)), (.ref b378)])
            obtain ⟨cl489, Ar489, q489, S489, N489, H489, G489⟩ := V_b378
            have hin489 : ¬ ((1 : Int32) < 0 ∨ cl489.slots.size ≤ ((1 : Int32)).toNatClampNeg) := inb_of S489 ⟨by decide, by decide⟩
            obtain ⟨T490, h490, X490, e490, W490, st490⟩ := stI X488 hx hZ Kq488 Ar489 (j := (1 : Int32)) hin489 (g := (mkF m 186 #[.val (.long q1), .second, .val (.long q2), .second, .val (.long q3), .second, .val (.int p4), .val (.int p5), .val (.int p6), .val (.int (3 : Int32)), .val (.int s0), .val (.int s1), .val (.int s2), .val (.int la), .val (.int lb), .val (.int lc), .val (.ref b374), .val (.ref b378), .val (.int (1 : Int32)), .val (.int (1 : Int32)), .val (.int (1 : Int32))] [(.int (own_mic q2)), (.int (1 : Int32)), (.ref b378)])) rfl rfl (hb hby at_186)
            refine WP.st st490 ?_
            clear st490
            have Vn : Arv Z h490 b378 k378 .int (3 : Int32) [(.int (own_mic q1)), (.int (own_mic q2)), (.int (0 : Int32))] (.int (0 : Int32)) := Arv.set Ar489 q489 S489 N489 H489 G489 rfl W490 1 rfl (Nat.le_of_ble_eq_true rfl)
            replace E_b374 := E_b374.wr W490
            replace F_b374_highestSequence := F_b374_highestSequence.other W490 (Or.inl ne_b374_b378)
            replace F_b374_messages := F_b374_messages.other W490 (Or.inl ne_b374_b378)
            replace F_b374_delivered := F_b374_delivered.other W490 (Or.inl ne_b374_b378)
            replace F_b374_late := F_b374_late.other W490 (Or.inl ne_b374_b378)
            replace F_b374_outOfOrder := F_b374_outOfOrder.other W490 (Or.inl ne_b374_b378)
            replace F_b374_duplicated := F_b374_duplicated.other W490 (Or.inl ne_b374_b378)
            replace F_b374_lastDeliveryNanos := F_b374_lastDeliveryNanos.other W490 (Or.inl ne_b374_b378)
            replace F_b374_seen := F_b374_seen.other W490 (Or.inl ne_b374_b378)
            replace F_b374_latenciesMicros := F_b374_latenciesMicros.other W490 (Or.inl ne_b374_b378)
            replace V_ts_376 := V_ts_376.other W490 ne_ts_376_b378
            replace V_tl_376 := V_tl_376.other W490 ne_tl_376_b378
            replace Z0 := Nat.le_trans Z0 (Keep.of_wr W490).1
            replace V_b378 := Vn
            replace NF := Fr.snoc X490 NF g_b378
            clear W490 hin489 q489 S489 N489 H489 G489 Ar489
            show WP p.tables e below _ T490 (mkF m 187 #[.val (.long q1), .second, .val (.long q2), .second, .val (.long q3), .second, .val (.int p4), .val (.int p5), .val (.int p6), .val (.int (3 : Int32)), .val (.int s0), .val (.int s1), .val (.int s2), .val (.int la), .val (.int lb), .val (.int lc), .val (.ref b374), .val (.ref b378), .val (.int (1 : Int32)), .val (.int (1 : Int32)), .val (.int (1 : Int32))] [])
            have bk491 : ∀ t, Steps p.tables e below (T490.setTop (mkF m 190 #[.val (.long q1), .second, .val (.long q2), .second, .val (.long q3), .second, .val (.int p4), .val (.int p5), .val (.int p6), .val (.int (3 : Int32)), .val (.int s0), .val (.int s1), .val (.int s2), .val (.int la), .val (.int lb), .val (.int lc), .val (.ref b374), .val (.ref b378), .val (.int ((1 : Int32) + (1 : Int32))), .val (.int (1 : Int32)), .val (.int (1 : Int32))] [])) t → Steps p.tables e below (T490.setTop (mkF m 187 #[.val (.long q1), .second, .val (.long q2), .second, .val (.long q3), .second, .val (.int p4), .val (.int p5), .val (.int p6), .val (.int (3 : Int32)), .val (.int s0), .val (.int s1), .val (.int s2), .val (.int la), .val (.int lb), .val (.int lc), .val (.ref b374), .val (.ref b378), .val (.int (1 : Int32)), .val (.int (1 : Int32)), .val (.int (1 : Int32))] [])) t := fun t k => by
              refine XS.iinc X490.here hx rfl (hb hby at_187) rfl (l' := #[.val (.long q1), .second, .val (.long q2), .second, .val (.long q3), .second, .val (.int p4), .val (.int p5), .val (.int p6), .val (.int (3 : Int32)), .val (.int s0), .val (.int s1), .val (.int s2), .val (.int la), .val (.int lb), .val (.int lc), .val (.ref b374), .val (.ref b378), .val (.int ((1 : Int32) + (1 : Int32))), .val (.int (1 : Int32)), .val (.int (1 : Int32))]) rfl ?_
              exact k
            refine WP.st bk491 ?_
            clear bk491
            rw [show ((1 : Int32) + (1 : Int32)) = (2 : Int32) from by decide]
            show WP p.tables e below _ T490 (mkF m 190 #[.val (.long q1), .second, .val (.long q2), .second, .val (.long q3), .second, .val (.int p4), .val (.int p5), .val (.int p6), .val (.int (3 : Int32)), .val (.int s0), .val (.int s1), .val (.int s2), .val (.int la), .val (.int lb), .val (.int lc), .val (.ref b374), .val (.ref b378), .val (.int (2 : Int32)), .val (.int (1 : Int32)), .val (.int (1 : Int32))] [])
            have bk493 : ∀ t, Steps p.tables e below (T490.setTop (mkF m 200 #[.val (.long q1), .second, .val (.long q2), .second, .val (.long q3), .second, .val (.int p4), .val (.int p5), .val (.int p6), .val (.int (3 : Int32)), .val (.int s0), .val (.int s1), .val (.int s2), .val (.int la), .val (.int lb), .val (.int lc), .val (.ref b374), .val (.ref b378), .val (.int (2 : Int32)), .val (.int (1 : Int32)), .val (.int (1 : Int32))] [(.int s0), (.int s2)])) t → Steps p.tables e below (T490.setTop (mkF m 190 #[.val (.long q1), .second, .val (.long q2), .second, .val (.long q3), .second, .val (.int p4), .val (.int p5), .val (.int p6), .val (.int (3 : Int32)), .val (.int s0), .val (.int s1), .val (.int s2), .val (.int la), .val (.int lb), .val (.int lc), .val (.ref b374), .val (.ref b378), .val (.int (2 : Int32)), .val (.int (1 : Int32)), .val (.int (1 : Int32))] [])) t := fun t k => by
              refine XS.iload X490.here hx rfl (hb hby at_190) rfl ?_
              refine XS.iconst X490.here hx rfl (hb hby at_192) ?_
              refine XS.icmpNo X490.here hx rfl (hb hby at_193) rfl (flt (by decide : ¬ ((3 : Int32) < (3 : Int32)))).1 ?_
              refine XS.iload X490.here hx rfl (hb hby at_196) rfl ?_
              show Steps p.tables e below (T490.setTop (mkF m 198 #[.val (.long q1), .second, .val (.long q2), .second, .val (.long q3), .second, .val (.int p4), .val (.int p5), .val (.int p6), .val (.int (3 : Int32)), .val (.int s0), .val (.int s1), .val (.int s2), .val (.int la), .val (.int lb), .val (.int lc), .val (.ref b374), .val (.ref b378), .val (.int (2 : Int32)), .val (.int (1 : Int32)), .val (.int (1 : Int32))] [(.int s2)])) t
              refine XS.iload X490.here hx rfl (hb hby at_198) rfl ?_
              exact k
            refine WP.st bk493 ?_
            clear bk493
            by_cases hc492 : s2 = s0
            · skip
              have bk494 : ∀ t, Steps p.tables e below (T490.setTop (mkF m 228 #[.val (.long q1), .second, .val (.long q2), .second, .val (.long q3), .second, .val (.int p4), .val (.int p5), .val (.int p6), .val (.int (3 : Int32)), .val (.int s0), .val (.int s1), .val (.int s2), .val (.int la), .val (.int lb), .val (.int lc), .val (.ref b374), .val (.ref b378), .val (.int (2 : Int32)), .val (.int (0 : Int32)), .val (.int (1 : Int32))] [(.int lc), (.long (2 : Int64)), (.long q3), (.int s2), (.ref b374)])) t → Steps p.tables e below (T490.setTop (mkF m 200 #[.val (.long q1), .second, .val (.long q2), .second, .val (.long q3), .second, .val (.int p4), .val (.int p5), .val (.int p6), .val (.int (3 : Int32)), .val (.int s0), .val (.int s1), .val (.int s2), .val (.int la), .val (.int lb), .val (.int lc), .val (.ref b374), .val (.ref b378), .val (.int (2 : Int32)), .val (.int (1 : Int32)), .val (.int (1 : Int32))] [(.int s0), (.int s2)])) t := fun t k => by
                refine XS.icmpYes X490.here hx rfl (pc0 := 200) (pc' := 214) rfl (hb hby at_200) rfl (teq hc492).1 (by decide) (by decide) ?_
                refine XS.iconst X490.here hx rfl (hb hby at_214) ?_
                refine XS.istore X490.here hx rfl (hb hby at_215) rfl (l' := #[.val (.long q1), .second, .val (.long q2), .second, .val (.long q3), .second, .val (.int p4), .val (.int p5), .val (.int p6), .val (.int (3 : Int32)), .val (.int s0), .val (.int s1), .val (.int s2), .val (.int la), .val (.int lb), .val (.int lc), .val (.ref b374), .val (.ref b378), .val (.int (2 : Int32)), .val (.int (0 : Int32)), .val (.int (1 : Int32))]) rfl ?_
                refine XS.aload X490.here hx rfl (hb hby at_217) rfl rfl ?_
                show Steps p.tables e below (T490.setTop (mkF m 219 #[.val (.long q1), .second, .val (.long q2), .second, .val (.long q3), .second, .val (.int p4), .val (.int p5), .val (.int p6), .val (.int (3 : Int32)), .val (.int s0), .val (.int s1), .val (.int s2), .val (.int la), .val (.int lb), .val (.int lc), .val (.ref b374), .val (.ref b378), .val (.int (2 : Int32)), .val (.int (0 : Int32)), .val (.int (1 : Int32))] [(.ref b374)])) t
                refine XS.iload X490.here hx rfl (hb hby at_219) rfl ?_
                refine XS.lload X490.here hx rfl (hb hby at_221) rfl ?_
                refine X490.ldc2Long hx hown (mvT hZ (hw _ (List.mem_of_getElem? (i := 45) rfl))) (g := (mkF m 223 #[.val (.long q1), .second, .val (.long q2), .second, .val (.long q3), .second, .val (.int p4), .val (.int p5), .val (.int p6), .val (.int (3 : Int32)), .val (.int s0), .val (.int s1), .val (.int s2), .val (.int la), .val (.int lb), .val (.int lc), .val (.ref b374), .val (.ref b378), .val (.int (2 : Int32)), .val (.int (0 : Int32)), .val (.int (1 : Int32))] [(.long q3), (.int s2), (.ref b374)])) rfl (hb hby at_223) _ ?_
                refine XS.iload X490.here hx rfl (hb hby at_226) rfl ?_
                exact k
              refine WP.st bk494 ?_
              clear bk494
              obtain ⟨cq495, kq495, q495a, q495b, q495c⟩ := isOf hZ e490 E_b374
              obtain ⟨_, _, ⟨T495, L495, k495, n495⟩, -, X495, ⟨Lc495, hQ495, l495, y495, z495⟩, st495⟩ := X490.virtualBack hx (y := (⟨"com/example/otayori/otayori/bench/PairTally", "record", "(IJJZ)Z"⟩ : MethodName)) (z := (⟨"com/example/otayori/otayori/bench/PairTally", "record", "(IJJZ)Z"⟩ : MethodName)) hown (mvT hZ (hw _ (List.mem_of_getElem? (i := 19) rfl))) (mvT hZ (hw _ (List.mem_of_getElem? (i := 20) rfl))) (notFace_of_selects (args := #[]) (mvT hZ (hw _ (List.mem_of_getElem? (i := 22) rfl)))) (mvT hZ (hw _ (List.mem_of_getElem? (i := 22) rfl))) (mvT hZ (hw _ (List.mem_of_getElem? (i := 21) rfl))) (by decide) (backOf (W := 0) (rm3d l Z a0 hw [] b374 s2 q3 (2 : Int64) lc s1_486 (8 : Int32) d1_486 l1_486 o1_486 (0 : Int64) n1_486 ts_376 ks_376 tl_376 kl_376 (((0 : Int64) ||| (own_bit s0)) ||| (own_bit s1)) (.int (own_lat q1)) (.int (own_lat q2)) (.int (0 : Int32)) (.int (0 : Int32)) (.int (0 : Int32)) (.int (0 : Int32)) (.int (0 : Int32)) (.int (0 : Int32)) (.int (0 : Int32)) (.int (0 : Int32)) (.int (0 : Int32)) (.int (0 : Int32)) (.int (0 : Int32)) (.int (0 : Int32)) (.int (0 : Int32)) (.int (0 : Int32)) h490 n0 Z0 E_b374 g_b374 F_b374_highestSequence F_b374_messages F_b374_delivered F_b374_late F_b374_outOfOrder F_b374_duplicated F_b374_lastDeliveryNanos F_b374_seen F_b374_latenciesMicros V_ts_376 V_tl_376 g_ts_376 g_tl_376 ne_b374_ts_376 ne_b374_tl_376 ne_tl_376_ts_376 (hs2 : own_small s2) (fun q => ((own_b2 hs0 hs1 hs2).1 ((lw_eq _ _).1 q)).1 hc492)) hZ (hw _ (List.mem_of_getElem? (i := 23) rfl)) (hw _ (List.mem_of_getElem? (i := 2) rfl)) (by decide) (by decide)) q495a q495c (g := (mkF m 228 #[.val (.long q1), .second, .val (.long q2), .second, .val (.long q3), .second, .val (.int p4), .val (.int p5), .val (.int p6), .val (.int (3 : Int32)), .val (.int s0), .val (.int s1), .val (.int s2), .val (.int la), .val (.int lb), .val (.int lc), .val (.ref b374), .val (.ref b378), .val (.int (2 : Int32)), .val (.int (0 : Int32)), .val (.int (1 : Int32))] [(.int lc), (.long (2 : Int64)), (.long q3), (.int s2), (.ref b374)])) rfl (by rw [hml]; rfl) (Steps.refl _) (argsL := [(.int s2), (.long q3), (.long (2 : Int64)), (.int lc)]) (rest := []) (lenOf pd_5 rfl) rfl (by show 2 * 0 + _ ≤ _; exact Nat.le_of_eq rfl) (hb hby at_228) (fun _ _ => ⟨rfl, e490, (by decide : 4 + 0 ≤ _), (by decide : 29 + 0 ≤ _)⟩)
              dsimp only [Pt.U, Pt.locs, Pt.cells, Pt.slots] at X495 l495 y495 z495 st495 hQ495
              subst l495 y495 z495
              obtain ⟨c1_495, rfl, Nq495, Kq495, nF495_b374_highestSequence, nF495_b374_messages, nF495_b374_delivered, nF495_b374_late, nF495_b374_outOfOrder, nF495_b374_duplicated, nF495_b374_lastDeliveryNanos, nF495_b374_seen, nF495_b374_latenciesMicros, nA495_ts_376, nA495_tl_376⟩ := hQ495
              replace NF := Fr.app NF Nq495
              clear Nq495
              refine WP.tr st495 ?_
              clear st495
              obtain ⟨h495, e495⟩ : ∃ h, T495.heap = h := ⟨_, rfl⟩
              rw [e495] at Kq495 nF495_b374_highestSequence nF495_b374_messages nF495_b374_delivered nF495_b374_late nF495_b374_outOfOrder nF495_b374_duplicated nF495_b374_lastDeliveryNanos nF495_b374_seen nF495_b374_latenciesMicros nA495_ts_376 nA495_tl_376
              replace E_b374 := E_b374.keep Kq495
              clear F_b374_highestSequence
              clear F_b374_messages
              clear F_b374_delivered
              clear F_b374_late
              clear F_b374_outOfOrder
              clear F_b374_duplicated
              clear F_b374_lastDeliveryNanos
              clear F_b374_seen
              clear F_b374_latenciesMicros
              clear V_ts_376
              clear V_tl_376
              replace V_b378 := V_b378.keep Kq495 (by exact ninS (Ne.symm ne_b374_b378) (ninS (Ne.symm ne_ts_376_b378) (ninS (Ne.symm ne_tl_376_b378) (nin0))))
              replace Z0 := Nat.le_trans Z0 Kq495.1
              clear Kq495
              have F_b374_highestSequence := nF495_b374_highestSequence
              clear nF495_b374_highestSequence
              have F_b374_messages := nF495_b374_messages
              clear nF495_b374_messages
              have F_b374_delivered := nF495_b374_delivered
              clear nF495_b374_delivered
              have F_b374_late := nF495_b374_late
              clear nF495_b374_late
              have F_b374_outOfOrder := nF495_b374_outOfOrder
              clear nF495_b374_outOfOrder
              have F_b374_duplicated := nF495_b374_duplicated
              clear nF495_b374_duplicated
              have F_b374_lastDeliveryNanos := nF495_b374_lastDeliveryNanos
              clear nF495_b374_lastDeliveryNanos
              have F_b374_seen := nF495_b374_seen
              clear nF495_b374_seen
              have F_b374_latenciesMicros := nF495_b374_latenciesMicros
              clear nF495_b374_latenciesMicros
              have V_ts_376 := nA495_ts_376
              clear nA495_ts_376
              have V_tl_376 := nA495_tl_376
              clear nA495_tl_376
              show WP p.tables e below _ T495 (mkF m 231 #[.val (.long q1), .second, .val (.long q2), .second, .val (.long q3), .second, .val (.int p4), .val (.int p5), .val (.int p6), .val (.int (3 : Int32)), .val (.int s0), .val (.int s1), .val (.int s2), .val (.int la), .val (.int lb), .val (.int lc), .val (.ref b374), .val (.ref b378), .val (.int (2 : Int32)), .val (.int (0 : Int32)), .val (.int (1 : Int32))] [(.int (0 : Int32))])
              have bk496 : ∀ t, Steps p.tables e below (T495.setTop (mkF m 262 #[.val (.long q1), .second, .val (.long q2), .second, .val (.long q3), .second, .val (.int p4), .val (.int p5), .val (.int p6), .val (.int (3 : Int32)), .val (.int s0), .val (.int s1), .val (.int s2), .val (.int la), .val (.int lb), .val (.int lc), .val (.ref b374), .val (.ref b378), .val (.int (2 : Int32)), .val (.int (0 : Int32)), .val (.int (0 : Int32))] [(.ref b374)])) t → Steps p.tables e below (T495.setTop (mkF m 231 #[.val (.long q1), .second, .val (.long q2), .second, .val (.long q3), .second, .val (.int p4), .val (.int p5), .val (.int p6), .val (.int (3 : Int32)), .val (.int s0), .val (.int s1), .val (.int s2), .val (.int la), .val (.int lb), .val (.int lc), .val (.ref b374), .val (.ref b378), .val (.int (2 : Int32)), .val (.int (0 : Int32)), .val (.int (1 : Int32))] [(.int (0 : Int32))])) t := fun t k => by
                refine XS.istore X495.here hx rfl (hb hby at_231) rfl (l' := #[.val (.long q1), .second, .val (.long q2), .second, .val (.long q3), .second, .val (.int p4), .val (.int p5), .val (.int p6), .val (.int (3 : Int32)), .val (.int s0), .val (.int s1), .val (.int s2), .val (.int la), .val (.int lb), .val (.int lc), .val (.ref b374), .val (.ref b378), .val (.int (2 : Int32)), .val (.int (0 : Int32)), .val (.int (0 : Int32))]) rfl ?_
                refine XS.iload X495.here hx rfl (hb hby at_233) rfl ?_
                refine XS.iload X495.here hx rfl (hb hby at_235) rfl ?_
                refine XS.icmpYes X495.here hx rfl (pc0 := 237) (pc' := 242) rfl (hb hby at_237) rfl (teq (by decide : (0 : Int32) = (0 : Int32))).1 (by decide) (by decide) ?_
                show Steps p.tables e below (T495.setTop (mkF m 242 #[.val (.long q1), .second, .val (.long q2), .second, .val (.long q3), .second, .val (.int p4), .val (.int p5), .val (.int p6), .val (.int (3 : Int32)), .val (.int s0), .val (.int s1), .val (.int s2), .val (.int la), .val (.int lb), .val (.int lc), .val (.ref b374), .val (.ref b378), .val (.int (2 : Int32)), .val (.int (0 : Int32)), .val (.int (0 : Int32))] [])) t
                refine XS.iload X495.here hx rfl (hb hby at_242) rfl ?_
                refine XS.ifYes X495.here hx rfl (pc0 := 244) (pc' := 260) rfl (hb hby at_244) rfl ((if0 _ _).trans (teq (by decide : (0 : Int32) = (0 : Int32))).1) (by decide) (by decide) ?_
                refine XS.aload X495.here hx rfl (hb hby at_260) rfl rfl ?_
                exact k
              refine WP.st bk496 ?_
              clear bk496
              obtain ⟨cq497, kq497, q497a, q497b, q497c⟩ := isOf hZ e495 E_b374
              obtain ⟨_, _, ⟨T497, L497, k497, n497⟩, -, X497, ⟨Lc497, hQ497, l497, y497, z497⟩, st497⟩ := X495.virtualBack hx (y := (⟨"com/example/otayori/otayori/bench/PairTally", "latencies", "()[I"⟩ : MethodName)) (z := (⟨"com/example/otayori/otayori/bench/PairTally", "latencies", "()[I"⟩ : MethodName)) hown (mvT hZ (hw _ (List.mem_of_getElem? (i := 48) rfl))) (mvT hZ (hw _ (List.mem_of_getElem? (i := 49) rfl))) (notFace_of_selects (args := #[]) (mvT hZ (hw _ (List.mem_of_getElem? (i := 51) rfl)))) (mvT hZ (hw _ (List.mem_of_getElem? (i := 51) rfl))) (mvT hZ (hw _ (List.mem_of_getElem? (i := 50) rfl))) (by decide) (backOf (W := 0) (rm7k2 l Z a0 hw [] b374 tl_376 kl_376 d1_486 l1_486 (.int (own_lat q1)) (.int (own_lat q2)) (.int (0 : Int32)) (.int (0 : Int32)) (.int (0 : Int32)) (.int (0 : Int32)) (.int (0 : Int32)) (.int (0 : Int32)) (.int (0 : Int32)) (.int (0 : Int32)) (.int (0 : Int32)) (.int (0 : Int32)) (.int (0 : Int32)) (.int (0 : Int32)) (.int (0 : Int32)) (.int (0 : Int32)) h495 n0 Z0 F_b374_latenciesMicros F_b374_delivered F_b374_late V_tl_376 (hde1_486 : d1_486 + l1_486 = (2 : Int64))) hZ (hw _ (List.mem_of_getElem? (i := 52) rfl)) (hw _ (List.mem_of_getElem? (i := 2) rfl)) (by decide) (by decide)) q497a q497c (g := (mkF m 262 #[.val (.long q1), .second, .val (.long q2), .second, .val (.long q3), .second, .val (.int p4), .val (.int p5), .val (.int p6), .val (.int (3 : Int32)), .val (.int s0), .val (.int s1), .val (.int s2), .val (.int la), .val (.int lb), .val (.int lc), .val (.ref b374), .val (.ref b378), .val (.int (2 : Int32)), .val (.int (0 : Int32)), .val (.int (0 : Int32))] [(.ref b374)])) rfl (by rw [hml]; rfl) (Steps.refl _) (argsL := []) (rest := []) (lenOf pd_4 rfl) rfl (by show 2 * 0 + _ ≤ _; exact Nat.le_of_eq rfl) (hb hby at_262) (fun _ _ => ⟨rfl, e495, (by decide : 4 + 1 ≤ _), (by decide : 29 + 2 ≤ _)⟩)
              dsimp only [Pt.U, Pt.locs, Pt.cells, Pt.slots] at X497 l497 y497 z497 st497 hQ497
              subst l497 y497 z497
              obtain ⟨r_497, kr_497, rfl, Nq497, Kq497, szq_r_497, nA497_r_497⟩ := hQ497
              replace NF := Fr.app NF Nq497
              clear Nq497
              refine WP.tr st497 ?_
              clear st497
              obtain ⟨h497, e497⟩ : ∃ h, T497.heap = h := ⟨_, rfl⟩
              rw [e497] at Kq497 nA497_r_497
              have ne_b374_r_497 : b374 ≠ r_497 := Nat.ne_of_lt (Nat.lt_of_lt_of_le E_b374.lt szq_r_497)
              have ne_b378_r_497 : b378 ≠ r_497 := Nat.ne_of_lt (Nat.lt_of_lt_of_le V_b378.lt szq_r_497)
              have ne_ts_376_r_497 : ts_376 ≠ r_497 := Nat.ne_of_lt (Nat.lt_of_lt_of_le V_ts_376.lt szq_r_497)
              have ne_tl_376_r_497 : tl_376 ≠ r_497 := Nat.ne_of_lt (Nat.lt_of_lt_of_le V_tl_376.lt szq_r_497)
              replace E_b374 := E_b374.keep Kq497
              replace V_b378 := V_b378.keep Kq497 (by exact nin0)
              replace F_b374_highestSequence := F_b374_highestSequence.keep Kq497 (by exact nin0)
              replace F_b374_messages := F_b374_messages.keep Kq497 (by exact nin0)
              replace F_b374_delivered := F_b374_delivered.keep Kq497 (by exact nin0)
              replace F_b374_late := F_b374_late.keep Kq497 (by exact nin0)
              replace F_b374_outOfOrder := F_b374_outOfOrder.keep Kq497 (by exact nin0)
              replace F_b374_duplicated := F_b374_duplicated.keep Kq497 (by exact nin0)
              replace F_b374_lastDeliveryNanos := F_b374_lastDeliveryNanos.keep Kq497 (by exact nin0)
              replace F_b374_seen := F_b374_seen.keep Kq497 (by exact nin0)
              replace F_b374_latenciesMicros := F_b374_latenciesMicros.keep Kq497 (by exact nin0)
              replace V_ts_376 := V_ts_376.keep Kq497 (by exact nin0)
              replace V_tl_376 := V_tl_376.keep Kq497 (by exact nin0)
              replace Z0 := Nat.le_trans Z0 Kq497.1
              clear Kq497
              have V_r_497 := nA497_r_497
              clear nA497_r_497
              show WP p.tables e below _ T497 (mkF m 265 #[.val (.long q1), .second, .val (.long q2), .second, .val (.long q3), .second, .val (.int p4), .val (.int p5), .val (.int p6), .val (.int (3 : Int32)), .val (.int s0), .val (.int s1), .val (.int s2), .val (.int la), .val (.int lb), .val (.int lc), .val (.ref b374), .val (.ref b378), .val (.int (2 : Int32)), .val (.int (0 : Int32)), .val (.int (0 : Int32))] [(.ref r_497)])
              have bk498 : ∀ t, Steps p.tables e below (T497.setTop (mkF m 269 #[.val (.long q1), .second, .val (.long q2), .second, .val (.long q3), .second, .val (.int p4), .val (.int p5), .val (.int p6), .val (.int (3 : Int32)), .val (.int s0), .val (.int s1), .val (.int s2), .val (.int la), .val (.int lb), .val (.int lc), .val (.ref b374), .val (.ref b378), .val (.int (2 : Int32)), .val (.ref r_497), .val (.int (0 : Int32))] [(.ref r_497)])) t → Steps p.tables e below (T497.setTop (mkF m 265 #[.val (.long q1), .second, .val (.long q2), .second, .val (.long q3), .second, .val (.int p4), .val (.int p5), .val (.int p6), .val (.int (3 : Int32)), .val (.int s0), .val (.int s1), .val (.int s2), .val (.int la), .val (.int lb), .val (.int lc), .val (.ref b374), .val (.ref b378), .val (.int (2 : Int32)), .val (.int (0 : Int32)), .val (.int (0 : Int32))] [(.ref r_497)])) t := fun t k => by
                refine XS.astore X497.here hx rfl (hb hby at_265) rfl rfl (l' := #[.val (.long q1), .second, .val (.long q2), .second, .val (.long q3), .second, .val (.int p4), .val (.int p5), .val (.int p6), .val (.int (3 : Int32)), .val (.int s0), .val (.int s1), .val (.int s2), .val (.int la), .val (.int lb), .val (.int lc), .val (.ref b374), .val (.ref b378), .val (.int (2 : Int32)), .val (.ref r_497), .val (.int (0 : Int32))]) rfl ?_
                refine XS.aload X497.here hx rfl (hb hby at_267) rfl rfl ?_
                exact k
              refine WP.st bk498 ?_
              clear bk498
              obtain ⟨cl499, Ar499, len499⟩ := V_r_497.len
              have bk500 : ∀ t, Steps p.tables e below (T497.setTop (mkF m 286 #[.val (.long q1), .second, .val (.long q2), .second, .val (.long q3), .second, .val (.int p4), .val (.int p5), .val (.int p6), .val (.int (3 : Int32)), .val (.int s0), .val (.int s1), .val (.int s2), .val (.int la), .val (.int lb), .val (.int lc), .val (.ref b374), .val (.ref b378), .val (.int (2 : Int32)), .val (.ref r_497), .val (.int (0 : Int32))] [(.int (0 : Int32)), (.ref r_497)])) t → Steps p.tables e below (T497.setTop (mkF m 269 #[.val (.long q1), .second, .val (.long q2), .second, .val (.long q3), .second, .val (.int p4), .val (.int p5), .val (.int p6), .val (.int (3 : Int32)), .val (.int s0), .val (.int s1), .val (.int s2), .val (.int la), .val (.int lb), .val (.int lc), .val (.ref b374), .val (.ref b378), .val (.int (2 : Int32)), .val (.ref r_497), .val (.int (0 : Int32))] [(.ref r_497)])) t := fun t k => by
                refine X497.arraylength hx (by rw [e497]; exact Ar499.1) (State.isArrayOf_alike hZ.alike Ar499.2.1) (g := (mkF m 269 #[.val (.long q1), .second, .val (.long q2), .second, .val (.long q3), .second, .val (.int p4), .val (.int p5), .val (.int p6), .val (.int (3 : Int32)), .val (.int s0), .val (.int s1), .val (.int s2), .val (.int la), .val (.int lb), .val (.int lc), .val (.ref b374), .val (.ref b378), .val (.int (2 : Int32)), .val (.ref r_497), .val (.int (0 : Int32))] [(.ref r_497)])) rfl rfl (hb hby at_269) _ ?_
                rw [len499]
                refine XS.iload X497.here hx rfl (hb hby at_270) rfl ?_
                refine XS.icmpYes X497.here hx rfl (pc0 := 272) (pc' := 277) rfl (hb hby at_272) rfl (teq (by decide : (2 : Int32) = (2 : Int32))).1 (by decide) (by decide) ?_
                refine XS.iload X497.here hx rfl (hb hby at_277) rfl ?_
                show Steps p.tables e below (T497.setTop (mkF m 279 #[.val (.long q1), .second, .val (.long q2), .second, .val (.long q3), .second, .val (.int p4), .val (.int p5), .val (.int p6), .val (.int (3 : Int32)), .val (.int s0), .val (.int s1), .val (.int s2), .val (.int la), .val (.int lb), .val (.int lc), .val (.ref b374), .val (.ref b378), .val (.int (2 : Int32)), .val (.ref r_497), .val (.int (0 : Int32))] [(.int (2 : Int32))])) t
                refine XS.iconst X497.here hx rfl (hb hby at_279) ?_
                refine XS.icmpNo X497.here hx rfl (hb hby at_280) rfl (flt (by decide : ¬ ((2 : Int32) < (1 : Int32)))).1 ?_
                refine XS.aload X497.here hx rfl (hb hby at_283) rfl rfl ?_
                refine XS.iconst X497.here hx rfl (hb hby at_285) ?_
                exact k
              refine WP.st bk500 ?_
              clear bk500
              obtain ⟨cl501, Ar501, hin501, hat501, -⟩ := V_r_497.rd (j := (0 : Int32)) ⟨by decide, by decide⟩
              replace hat501 : cl501.slots[((0 : Int32)).toNatClampNeg]? = some (.int (own_lat q1)) := hat501
              have bk502 : ∀ t, Steps p.tables e below (T497.setTop (mkF m 290 #[.val (.long q1), .second, .val (.long q2), .second, .val (.long q3), .second, .val (.int p4), .val (.int p5), .val (.int p6), .val (.int (3 : Int32)), .val (.int s0), .val (.int s1), .val (.int s2), .val (.int la), .val (.int lb), .val (.int lc), .val (.ref b374), .val (.ref b378), .val (.int (2 : Int32)), .val (.ref r_497), .val (.int (0 : Int32))] [(.int (0 : Int32)), (.ref b378), (.int (own_lat q1))])) t → Steps p.tables e below (T497.setTop (mkF m 286 #[.val (.long q1), .second, .val (.long q2), .second, .val (.long q3), .second, .val (.int p4), .val (.int p5), .val (.int p6), .val (.int (3 : Int32)), .val (.int s0), .val (.int s1), .val (.int s2), .val (.int la), .val (.int lb), .val (.int lc), .val (.ref b374), .val (.ref b378), .val (.int (2 : Int32)), .val (.ref r_497), .val (.int (0 : Int32))] [(.int (0 : Int32)), (.ref r_497)])) t := fun t k => by
                refine X497.iaload hx (j := (0 : Int32)) (v := (.int (own_lat q1))) (by rw [e497]; exact Ar501.1) (State.isArrayOf_alike hZ.alike Ar501.2.1) Ar501.2.2 hin501 hat501 (g := (mkF m 286 #[.val (.long q1), .second, .val (.long q2), .second, .val (.long q3), .second, .val (.int p4), .val (.int p5), .val (.int p6), .val (.int (3 : Int32)), .val (.int s0), .val (.int s1), .val (.int s2), .val (.int la), .val (.int lb), .val (.int lc), .val (.ref b374), .val (.ref b378), .val (.int (2 : Int32)), .val (.ref r_497), .val (.int (0 : Int32))] [(.int (0 : Int32)), (.ref r_497)])) rfl rfl (hb hby at_286) _ ?_
                refine XS.aload X497.here hx rfl (hb hby at_287) rfl rfl ?_
                refine XS.iconst X497.here hx rfl (hb hby at_289) ?_
                exact k
              refine WP.st bk502 ?_
              clear bk502
              obtain ⟨cl503, Ar503, hin503, hat503, -⟩ := V_b378.rd (j := (0 : Int32)) ⟨by decide, by decide⟩
              replace hat503 : cl503.slots[((0 : Int32)).toNatClampNeg]? = some (.int (own_mic q1)) := hat503
              have bk504 : ∀ t, Steps p.tables e below (T497.setTop (mkF m 305 #[.val (.long q1), .second, .val (.long q2), .second, .val (.long q3), .second, .val (.int p4), .val (.int p5), .val (.int p6), .val (.int (3 : Int32)), .val (.int s0), .val (.int s1), .val (.int s2), .val (.int la), .val (.int lb), .val (.int lc), .val (.ref b374), .val (.ref b378), .val (.int (2 : Int32)), .val (.ref r_497), .val (.int (0 : Int32))] [(.int (1 : Int32)), (.ref r_497)])) t → Steps p.tables e below (T497.setTop (mkF m 290 #[.val (.long q1), .second, .val (.long q2), .second, .val (.long q3), .second, .val (.int p4), .val (.int p5), .val (.int p6), .val (.int (3 : Int32)), .val (.int s0), .val (.int s1), .val (.int s2), .val (.int la), .val (.int lb), .val (.int lc), .val (.ref b374), .val (.ref b378), .val (.int (2 : Int32)), .val (.ref r_497), .val (.int (0 : Int32))] [(.int (0 : Int32)), (.ref b378), (.int (own_lat q1))])) t := fun t k => by
                refine X497.iaload hx (j := (0 : Int32)) (v := (.int (own_mic q1))) (by rw [e497]; exact Ar503.1) (State.isArrayOf_alike hZ.alike Ar503.2.1) Ar503.2.2 hin503 hat503 (g := (mkF m 290 #[.val (.long q1), .second, .val (.long q2), .second, .val (.long q3), .second, .val (.int p4), .val (.int p5), .val (.int p6), .val (.int (3 : Int32)), .val (.int s0), .val (.int s1), .val (.int s2), .val (.int la), .val (.int lb), .val (.int lc), .val (.ref b374), .val (.ref b378), .val (.int (2 : Int32)), .val (.ref r_497), .val (.int (0 : Int32))] [(.int (0 : Int32)), (.ref b378), (.int (own_lat q1))])) rfl rfl (hb hby at_290) _ ?_
                refine XS.icmpYes X497.here hx rfl (pc0 := 291) (pc' := 296) rfl (hb hby at_291) rfl (teq (own_lm q1)).1 (by decide) (by decide) ?_
                refine XS.iload X497.here hx rfl (hb hby at_296) rfl ?_
                refine XS.iconst X497.here hx rfl (hb hby at_298) ?_
                show Steps p.tables e below (T497.setTop (mkF m 299 #[.val (.long q1), .second, .val (.long q2), .second, .val (.long q3), .second, .val (.int p4), .val (.int p5), .val (.int p6), .val (.int (3 : Int32)), .val (.int s0), .val (.int s1), .val (.int s2), .val (.int la), .val (.int lb), .val (.int lc), .val (.ref b374), .val (.ref b378), .val (.int (2 : Int32)), .val (.ref r_497), .val (.int (0 : Int32))] [(.int (2 : Int32)), (.int (2 : Int32))])) t
                refine XS.icmpNo X497.here hx rfl (hb hby at_299) rfl (flt (by decide : ¬ ((2 : Int32) < (2 : Int32)))).1 ?_
                refine XS.aload X497.here hx rfl (hb hby at_302) rfl rfl ?_
                refine XS.iconst X497.here hx rfl (hb hby at_304) ?_
                exact k
              refine WP.st bk504 ?_
              clear bk504
              obtain ⟨cl505, Ar505, hin505, hat505, -⟩ := V_r_497.rd (j := (1 : Int32)) ⟨by decide, by decide⟩
              replace hat505 : cl505.slots[((1 : Int32)).toNatClampNeg]? = some (.int (own_lat q2)) := hat505
              have bk506 : ∀ t, Steps p.tables e below (T497.setTop (mkF m 309 #[.val (.long q1), .second, .val (.long q2), .second, .val (.long q3), .second, .val (.int p4), .val (.int p5), .val (.int p6), .val (.int (3 : Int32)), .val (.int s0), .val (.int s1), .val (.int s2), .val (.int la), .val (.int lb), .val (.int lc), .val (.ref b374), .val (.ref b378), .val (.int (2 : Int32)), .val (.ref r_497), .val (.int (0 : Int32))] [(.int (1 : Int32)), (.ref b378), (.int (own_lat q2))])) t → Steps p.tables e below (T497.setTop (mkF m 305 #[.val (.long q1), .second, .val (.long q2), .second, .val (.long q3), .second, .val (.int p4), .val (.int p5), .val (.int p6), .val (.int (3 : Int32)), .val (.int s0), .val (.int s1), .val (.int s2), .val (.int la), .val (.int lb), .val (.int lc), .val (.ref b374), .val (.ref b378), .val (.int (2 : Int32)), .val (.ref r_497), .val (.int (0 : Int32))] [(.int (1 : Int32)), (.ref r_497)])) t := fun t k => by
                refine X497.iaload hx (j := (1 : Int32)) (v := (.int (own_lat q2))) (by rw [e497]; exact Ar505.1) (State.isArrayOf_alike hZ.alike Ar505.2.1) Ar505.2.2 hin505 hat505 (g := (mkF m 305 #[.val (.long q1), .second, .val (.long q2), .second, .val (.long q3), .second, .val (.int p4), .val (.int p5), .val (.int p6), .val (.int (3 : Int32)), .val (.int s0), .val (.int s1), .val (.int s2), .val (.int la), .val (.int lb), .val (.int lc), .val (.ref b374), .val (.ref b378), .val (.int (2 : Int32)), .val (.ref r_497), .val (.int (0 : Int32))] [(.int (1 : Int32)), (.ref r_497)])) rfl rfl (hb hby at_305) _ ?_
                refine XS.aload X497.here hx rfl (hb hby at_306) rfl rfl ?_
                refine XS.iconst X497.here hx rfl (hb hby at_308) ?_
                exact k
              refine WP.st bk506 ?_
              clear bk506
              obtain ⟨cl507, Ar507, hin507, hat507, -⟩ := V_b378.rd (j := (1 : Int32)) ⟨by decide, by decide⟩
              replace hat507 : cl507.slots[((1 : Int32)).toNatClampNeg]? = some (.int (own_mic q2)) := hat507
              have bk508 : ∀ t, Steps p.tables e below (T497.setTop (mkF m 335 #[.val (.long q1), .second, .val (.long q2), .second, .val (.long q3), .second, .val (.int p4), .val (.int p5), .val (.int p6), .val (.int (3 : Int32)), .val (.int s0), .val (.int s1), .val (.int s2), .val (.int la), .val (.int lb), .val (.int lc), .val (.ref b374), .val (.ref b378), .val (.int (2 : Int32)), .val (.ref r_497), .val (.int (0 : Int32))] [(.int (1 : Int32))])) t → Steps p.tables e below (T497.setTop (mkF m 309 #[.val (.long q1), .second, .val (.long q2), .second, .val (.long q3), .second, .val (.int p4), .val (.int p5), .val (.int p6), .val (.int (3 : Int32)), .val (.int s0), .val (.int s1), .val (.int s2), .val (.int la), .val (.int lb), .val (.int lc), .val (.ref b374), .val (.ref b378), .val (.int (2 : Int32)), .val (.ref r_497), .val (.int (0 : Int32))] [(.int (1 : Int32)), (.ref b378), (.int (own_lat q2))])) t := fun t k => by
                refine X497.iaload hx (j := (1 : Int32)) (v := (.int (own_mic q2))) (by rw [e497]; exact Ar507.1) (State.isArrayOf_alike hZ.alike Ar507.2.1) Ar507.2.2 hin507 hat507 (g := (mkF m 309 #[.val (.long q1), .second, .val (.long q2), .second, .val (.long q3), .second, .val (.int p4), .val (.int p5), .val (.int p6), .val (.int (3 : Int32)), .val (.int s0), .val (.int s1), .val (.int s2), .val (.int la), .val (.int lb), .val (.int lc), .val (.ref b374), .val (.ref b378), .val (.int (2 : Int32)), .val (.ref r_497), .val (.int (0 : Int32))] [(.int (1 : Int32)), (.ref b378), (.int (own_lat q2))])) rfl rfl (hb hby at_309) _ ?_
                refine XS.icmpYes X497.here hx rfl (pc0 := 310) (pc' := 315) rfl (hb hby at_310) rfl (teq (own_lm q2)).1 (by decide) (by decide) ?_
                refine XS.iload X497.here hx rfl (hb hby at_315) rfl ?_
                refine XS.iconst X497.here hx rfl (hb hby at_317) ?_
                show Steps p.tables e below (T497.setTop (mkF m 318 #[.val (.long q1), .second, .val (.long q2), .second, .val (.long q3), .second, .val (.int p4), .val (.int p5), .val (.int p6), .val (.int (3 : Int32)), .val (.int s0), .val (.int s1), .val (.int s2), .val (.int la), .val (.int lb), .val (.int lc), .val (.ref b374), .val (.ref b378), .val (.int (2 : Int32)), .val (.ref r_497), .val (.int (0 : Int32))] [(.int (3 : Int32)), (.int (2 : Int32))])) t
                refine XS.icmpYes X497.here hx rfl (pc0 := 318) (pc' := 334) rfl (hb hby at_318) rfl (tlt (by decide : (2 : Int32) < (3 : Int32))).1 (by decide) (by decide) ?_
                refine XS.iconst X497.here hx rfl (hb hby at_334) ?_
                exact k
              refine WP.st bk508 ?_
              clear bk508
              subst hG
              obtain ⟨fs, hr, hrun, hended, hW, hsame⟩ := X497.leave (v := some (.int (1 : Int32))) (fun h => by rw [Bd.returns] at h; cases h)
              refine WP.fin ⟨_, _, ?_, hrun, hended, _, _, rfl, ?_, ⟨_, rfl⟩, hW, hsame.mono (by decide) (by decide)⟩
              · exact retN X497 hx (t := .boolean) Bd.returns (by simp) (hb hby at_335) hr
              · show Q0 Z q1 q2 q3 p4 p5 p6 h0 n0 _ T497.heap _
                rw [e497]
                exact ⟨rfl, NF⟩
            · skip
              have bk510 : ∀ t, Steps p.tables e below (T490.setTop (mkF m 207 #[.val (.long q1), .second, .val (.long q2), .second, .val (.long q3), .second, .val (.int p4), .val (.int p5), .val (.int p6), .val (.int (3 : Int32)), .val (.int s0), .val (.int s1), .val (.int s2), .val (.int la), .val (.int lb), .val (.int lc), .val (.ref b374), .val (.ref b378), .val (.int (2 : Int32)), .val (.int (1 : Int32)), .val (.int (1 : Int32))] [(.int s1), (.int s2)])) t → Steps p.tables e below (T490.setTop (mkF m 200 #[.val (.long q1), .second, .val (.long q2), .second, .val (.long q3), .second, .val (.int p4), .val (.int p5), .val (.int p6), .val (.int (3 : Int32)), .val (.int s0), .val (.int s1), .val (.int s2), .val (.int la), .val (.int lb), .val (.int lc), .val (.ref b374), .val (.ref b378), .val (.int (2 : Int32)), .val (.int (1 : Int32)), .val (.int (1 : Int32))] [(.int s0), (.int s2)])) t := fun t k => by
                refine XS.icmpNo X490.here hx rfl (hb hby at_200) rfl (feq hc492).1 ?_
                refine XS.iload X490.here hx rfl (hb hby at_203) rfl ?_
                refine XS.iload X490.here hx rfl (hb hby at_205) rfl ?_
                exact k
              refine WP.st bk510 ?_
              clear bk510
              by_cases hc509 : s2 = s1
              · skip
                have bk511 : ∀ t, Steps p.tables e below (T490.setTop (mkF m 228 #[.val (.long q1), .second, .val (.long q2), .second, .val (.long q3), .second, .val (.int p4), .val (.int p5), .val (.int p6), .val (.int (3 : Int32)), .val (.int s0), .val (.int s1), .val (.int s2), .val (.int la), .val (.int lb), .val (.int lc), .val (.ref b374), .val (.ref b378), .val (.int (2 : Int32)), .val (.int (0 : Int32)), .val (.int (1 : Int32))] [(.int lc), (.long (2 : Int64)), (.long q3), (.int s2), (.ref b374)])) t → Steps p.tables e below (T490.setTop (mkF m 207 #[.val (.long q1), .second, .val (.long q2), .second, .val (.long q3), .second, .val (.int p4), .val (.int p5), .val (.int p6), .val (.int (3 : Int32)), .val (.int s0), .val (.int s1), .val (.int s2), .val (.int la), .val (.int lb), .val (.int lc), .val (.ref b374), .val (.ref b378), .val (.int (2 : Int32)), .val (.int (1 : Int32)), .val (.int (1 : Int32))] [(.int s1), (.int s2)])) t := fun t k => by
                  refine XS.icmpYes X490.here hx rfl (pc0 := 207) (pc' := 214) rfl (hb hby at_207) rfl (teq hc509).1 (by decide) (by decide) ?_
                  refine XS.iconst X490.here hx rfl (hb hby at_214) ?_
                  refine XS.istore X490.here hx rfl (hb hby at_215) rfl (l' := #[.val (.long q1), .second, .val (.long q2), .second, .val (.long q3), .second, .val (.int p4), .val (.int p5), .val (.int p6), .val (.int (3 : Int32)), .val (.int s0), .val (.int s1), .val (.int s2), .val (.int la), .val (.int lb), .val (.int lc), .val (.ref b374), .val (.ref b378), .val (.int (2 : Int32)), .val (.int (0 : Int32)), .val (.int (1 : Int32))]) rfl ?_
                  refine XS.aload X490.here hx rfl (hb hby at_217) rfl rfl ?_
                  show Steps p.tables e below (T490.setTop (mkF m 219 #[.val (.long q1), .second, .val (.long q2), .second, .val (.long q3), .second, .val (.int p4), .val (.int p5), .val (.int p6), .val (.int (3 : Int32)), .val (.int s0), .val (.int s1), .val (.int s2), .val (.int la), .val (.int lb), .val (.int lc), .val (.ref b374), .val (.ref b378), .val (.int (2 : Int32)), .val (.int (0 : Int32)), .val (.int (1 : Int32))] [(.ref b374)])) t
                  refine XS.iload X490.here hx rfl (hb hby at_219) rfl ?_
                  refine XS.lload X490.here hx rfl (hb hby at_221) rfl ?_
                  refine X490.ldc2Long hx hown (mvT hZ (hw _ (List.mem_of_getElem? (i := 45) rfl))) (g := (mkF m 223 #[.val (.long q1), .second, .val (.long q2), .second, .val (.long q3), .second, .val (.int p4), .val (.int p5), .val (.int p6), .val (.int (3 : Int32)), .val (.int s0), .val (.int s1), .val (.int s2), .val (.int la), .val (.int lb), .val (.int lc), .val (.ref b374), .val (.ref b378), .val (.int (2 : Int32)), .val (.int (0 : Int32)), .val (.int (1 : Int32))] [(.long q3), (.int s2), (.ref b374)])) rfl (hb hby at_223) _ ?_
                  refine XS.iload X490.here hx rfl (hb hby at_226) rfl ?_
                  exact k
                refine WP.st bk511 ?_
                clear bk511
                obtain ⟨cq512, kq512, q512a, q512b, q512c⟩ := isOf hZ e490 E_b374
                obtain ⟨_, _, ⟨T512, L512, k512, n512⟩, -, X512, ⟨Lc512, hQ512, l512, y512, z512⟩, st512⟩ := X490.virtualBack hx (y := (⟨"com/example/otayori/otayori/bench/PairTally", "record", "(IJJZ)Z"⟩ : MethodName)) (z := (⟨"com/example/otayori/otayori/bench/PairTally", "record", "(IJJZ)Z"⟩ : MethodName)) hown (mvT hZ (hw _ (List.mem_of_getElem? (i := 19) rfl))) (mvT hZ (hw _ (List.mem_of_getElem? (i := 20) rfl))) (notFace_of_selects (args := #[]) (mvT hZ (hw _ (List.mem_of_getElem? (i := 22) rfl)))) (mvT hZ (hw _ (List.mem_of_getElem? (i := 22) rfl))) (mvT hZ (hw _ (List.mem_of_getElem? (i := 21) rfl))) (by decide) (backOf (W := 0) (rm3d l Z a0 hw [] b374 s2 q3 (2 : Int64) lc s1_486 (8 : Int32) d1_486 l1_486 o1_486 (0 : Int64) n1_486 ts_376 ks_376 tl_376 kl_376 (((0 : Int64) ||| (own_bit s0)) ||| (own_bit s1)) (.int (own_lat q1)) (.int (own_lat q2)) (.int (0 : Int32)) (.int (0 : Int32)) (.int (0 : Int32)) (.int (0 : Int32)) (.int (0 : Int32)) (.int (0 : Int32)) (.int (0 : Int32)) (.int (0 : Int32)) (.int (0 : Int32)) (.int (0 : Int32)) (.int (0 : Int32)) (.int (0 : Int32)) (.int (0 : Int32)) (.int (0 : Int32)) h490 n0 Z0 E_b374 g_b374 F_b374_highestSequence F_b374_messages F_b374_delivered F_b374_late F_b374_outOfOrder F_b374_duplicated F_b374_lastDeliveryNanos F_b374_seen F_b374_latenciesMicros V_ts_376 V_tl_376 g_ts_376 g_tl_376 ne_b374_ts_376 ne_b374_tl_376 ne_tl_376_ts_376 (hs2 : own_small s2) (fun q => ((own_b2 hs0 hs1 hs2).1 ((lw_eq _ _).1 q)).2 hc509)) hZ (hw _ (List.mem_of_getElem? (i := 23) rfl)) (hw _ (List.mem_of_getElem? (i := 2) rfl)) (by decide) (by decide)) q512a q512c (g := (mkF m 228 #[.val (.long q1), .second, .val (.long q2), .second, .val (.long q3), .second, .val (.int p4), .val (.int p5), .val (.int p6), .val (.int (3 : Int32)), .val (.int s0), .val (.int s1), .val (.int s2), .val (.int la), .val (.int lb), .val (.int lc), .val (.ref b374), .val (.ref b378), .val (.int (2 : Int32)), .val (.int (0 : Int32)), .val (.int (1 : Int32))] [(.int lc), (.long (2 : Int64)), (.long q3), (.int s2), (.ref b374)])) rfl (by rw [hml]; rfl) (Steps.refl _) (argsL := [(.int s2), (.long q3), (.long (2 : Int64)), (.int lc)]) (rest := []) (lenOf pd_5 rfl) rfl (by show 2 * 0 + _ ≤ _; exact Nat.le_of_eq rfl) (hb hby at_228) (fun _ _ => ⟨rfl, e490, (by decide : 4 + 0 ≤ _), (by decide : 29 + 0 ≤ _)⟩)
                dsimp only [Pt.U, Pt.locs, Pt.cells, Pt.slots] at X512 l512 y512 z512 st512 hQ512
                subst l512 y512 z512
                obtain ⟨c1_512, rfl, Nq512, Kq512, nF512_b374_highestSequence, nF512_b374_messages, nF512_b374_delivered, nF512_b374_late, nF512_b374_outOfOrder, nF512_b374_duplicated, nF512_b374_lastDeliveryNanos, nF512_b374_seen, nF512_b374_latenciesMicros, nA512_ts_376, nA512_tl_376⟩ := hQ512
                replace NF := Fr.app NF Nq512
                clear Nq512
                refine WP.tr st512 ?_
                clear st512
                obtain ⟨h512, e512⟩ : ∃ h, T512.heap = h := ⟨_, rfl⟩
                rw [e512] at Kq512 nF512_b374_highestSequence nF512_b374_messages nF512_b374_delivered nF512_b374_late nF512_b374_outOfOrder nF512_b374_duplicated nF512_b374_lastDeliveryNanos nF512_b374_seen nF512_b374_latenciesMicros nA512_ts_376 nA512_tl_376
                replace E_b374 := E_b374.keep Kq512
                clear F_b374_highestSequence
                clear F_b374_messages
                clear F_b374_delivered
                clear F_b374_late
                clear F_b374_outOfOrder
                clear F_b374_duplicated
                clear F_b374_lastDeliveryNanos
                clear F_b374_seen
                clear F_b374_latenciesMicros
                clear V_ts_376
                clear V_tl_376
                replace V_b378 := V_b378.keep Kq512 (by exact ninS (Ne.symm ne_b374_b378) (ninS (Ne.symm ne_ts_376_b378) (ninS (Ne.symm ne_tl_376_b378) (nin0))))
                replace Z0 := Nat.le_trans Z0 Kq512.1
                clear Kq512
                have F_b374_highestSequence := nF512_b374_highestSequence
                clear nF512_b374_highestSequence
                have F_b374_messages := nF512_b374_messages
                clear nF512_b374_messages
                have F_b374_delivered := nF512_b374_delivered
                clear nF512_b374_delivered
                have F_b374_late := nF512_b374_late
                clear nF512_b374_late
                have F_b374_outOfOrder := nF512_b374_outOfOrder
                clear nF512_b374_outOfOrder
                have F_b374_duplicated := nF512_b374_duplicated
                clear nF512_b374_duplicated
                have F_b374_lastDeliveryNanos := nF512_b374_lastDeliveryNanos
                clear nF512_b374_lastDeliveryNanos
                have F_b374_seen := nF512_b374_seen
                clear nF512_b374_seen
                have F_b374_latenciesMicros := nF512_b374_latenciesMicros
                clear nF512_b374_latenciesMicros
                have V_ts_376 := nA512_ts_376
                clear nA512_ts_376
                have V_tl_376 := nA512_tl_376
                clear nA512_tl_376
                show WP p.tables e below _ T512 (mkF m 231 #[.val (.long q1), .second, .val (.long q2), .second, .val (.long q3), .second, .val (.int p4), .val (.int p5), .val (.int p6), .val (.int (3 : Int32)), .val (.int s0), .val (.int s1), .val (.int s2), .val (.int la), .val (.int lb), .val (.int lc), .val (.ref b374), .val (.ref b378), .val (.int (2 : Int32)), .val (.int (0 : Int32)), .val (.int (1 : Int32))] [(.int (0 : Int32))])
                have bk513 : ∀ t, Steps p.tables e below (T512.setTop (mkF m 262 #[.val (.long q1), .second, .val (.long q2), .second, .val (.long q3), .second, .val (.int p4), .val (.int p5), .val (.int p6), .val (.int (3 : Int32)), .val (.int s0), .val (.int s1), .val (.int s2), .val (.int la), .val (.int lb), .val (.int lc), .val (.ref b374), .val (.ref b378), .val (.int (2 : Int32)), .val (.int (0 : Int32)), .val (.int (0 : Int32))] [(.ref b374)])) t → Steps p.tables e below (T512.setTop (mkF m 231 #[.val (.long q1), .second, .val (.long q2), .second, .val (.long q3), .second, .val (.int p4), .val (.int p5), .val (.int p6), .val (.int (3 : Int32)), .val (.int s0), .val (.int s1), .val (.int s2), .val (.int la), .val (.int lb), .val (.int lc), .val (.ref b374), .val (.ref b378), .val (.int (2 : Int32)), .val (.int (0 : Int32)), .val (.int (1 : Int32))] [(.int (0 : Int32))])) t := fun t k => by
                  refine XS.istore X512.here hx rfl (hb hby at_231) rfl (l' := #[.val (.long q1), .second, .val (.long q2), .second, .val (.long q3), .second, .val (.int p4), .val (.int p5), .val (.int p6), .val (.int (3 : Int32)), .val (.int s0), .val (.int s1), .val (.int s2), .val (.int la), .val (.int lb), .val (.int lc), .val (.ref b374), .val (.ref b378), .val (.int (2 : Int32)), .val (.int (0 : Int32)), .val (.int (0 : Int32))]) rfl ?_
                  refine XS.iload X512.here hx rfl (hb hby at_233) rfl ?_
                  refine XS.iload X512.here hx rfl (hb hby at_235) rfl ?_
                  refine XS.icmpYes X512.here hx rfl (pc0 := 237) (pc' := 242) rfl (hb hby at_237) rfl (teq (by decide : (0 : Int32) = (0 : Int32))).1 (by decide) (by decide) ?_
                  show Steps p.tables e below (T512.setTop (mkF m 242 #[.val (.long q1), .second, .val (.long q2), .second, .val (.long q3), .second, .val (.int p4), .val (.int p5), .val (.int p6), .val (.int (3 : Int32)), .val (.int s0), .val (.int s1), .val (.int s2), .val (.int la), .val (.int lb), .val (.int lc), .val (.ref b374), .val (.ref b378), .val (.int (2 : Int32)), .val (.int (0 : Int32)), .val (.int (0 : Int32))] [])) t
                  refine XS.iload X512.here hx rfl (hb hby at_242) rfl ?_
                  refine XS.ifYes X512.here hx rfl (pc0 := 244) (pc' := 260) rfl (hb hby at_244) rfl ((if0 _ _).trans (teq (by decide : (0 : Int32) = (0 : Int32))).1) (by decide) (by decide) ?_
                  refine XS.aload X512.here hx rfl (hb hby at_260) rfl rfl ?_
                  exact k
                refine WP.st bk513 ?_
                clear bk513
                obtain ⟨cq514, kq514, q514a, q514b, q514c⟩ := isOf hZ e512 E_b374
                obtain ⟨_, _, ⟨T514, L514, k514, n514⟩, -, X514, ⟨Lc514, hQ514, l514, y514, z514⟩, st514⟩ := X512.virtualBack hx (y := (⟨"com/example/otayori/otayori/bench/PairTally", "latencies", "()[I"⟩ : MethodName)) (z := (⟨"com/example/otayori/otayori/bench/PairTally", "latencies", "()[I"⟩ : MethodName)) hown (mvT hZ (hw _ (List.mem_of_getElem? (i := 48) rfl))) (mvT hZ (hw _ (List.mem_of_getElem? (i := 49) rfl))) (notFace_of_selects (args := #[]) (mvT hZ (hw _ (List.mem_of_getElem? (i := 51) rfl)))) (mvT hZ (hw _ (List.mem_of_getElem? (i := 51) rfl))) (mvT hZ (hw _ (List.mem_of_getElem? (i := 50) rfl))) (by decide) (backOf (W := 0) (rm7k2 l Z a0 hw [] b374 tl_376 kl_376 d1_486 l1_486 (.int (own_lat q1)) (.int (own_lat q2)) (.int (0 : Int32)) (.int (0 : Int32)) (.int (0 : Int32)) (.int (0 : Int32)) (.int (0 : Int32)) (.int (0 : Int32)) (.int (0 : Int32)) (.int (0 : Int32)) (.int (0 : Int32)) (.int (0 : Int32)) (.int (0 : Int32)) (.int (0 : Int32)) (.int (0 : Int32)) (.int (0 : Int32)) h512 n0 Z0 F_b374_latenciesMicros F_b374_delivered F_b374_late V_tl_376 (hde1_486 : d1_486 + l1_486 = (2 : Int64))) hZ (hw _ (List.mem_of_getElem? (i := 52) rfl)) (hw _ (List.mem_of_getElem? (i := 2) rfl)) (by decide) (by decide)) q514a q514c (g := (mkF m 262 #[.val (.long q1), .second, .val (.long q2), .second, .val (.long q3), .second, .val (.int p4), .val (.int p5), .val (.int p6), .val (.int (3 : Int32)), .val (.int s0), .val (.int s1), .val (.int s2), .val (.int la), .val (.int lb), .val (.int lc), .val (.ref b374), .val (.ref b378), .val (.int (2 : Int32)), .val (.int (0 : Int32)), .val (.int (0 : Int32))] [(.ref b374)])) rfl (by rw [hml]; rfl) (Steps.refl _) (argsL := []) (rest := []) (lenOf pd_4 rfl) rfl (by show 2 * 0 + _ ≤ _; exact Nat.le_of_eq rfl) (hb hby at_262) (fun _ _ => ⟨rfl, e512, (by decide : 4 + 1 ≤ _), (by decide : 29 + 2 ≤ _)⟩)
                dsimp only [Pt.U, Pt.locs, Pt.cells, Pt.slots] at X514 l514 y514 z514 st514 hQ514
                subst l514 y514 z514
                obtain ⟨r_514, kr_514, rfl, Nq514, Kq514, szq_r_514, nA514_r_514⟩ := hQ514
                replace NF := Fr.app NF Nq514
                clear Nq514
                refine WP.tr st514 ?_
                clear st514
                obtain ⟨h514, e514⟩ : ∃ h, T514.heap = h := ⟨_, rfl⟩
                rw [e514] at Kq514 nA514_r_514
                have ne_b374_r_514 : b374 ≠ r_514 := Nat.ne_of_lt (Nat.lt_of_lt_of_le E_b374.lt szq_r_514)
                have ne_b378_r_514 : b378 ≠ r_514 := Nat.ne_of_lt (Nat.lt_of_lt_of_le V_b378.lt szq_r_514)
                have ne_ts_376_r_514 : ts_376 ≠ r_514 := Nat.ne_of_lt (Nat.lt_of_lt_of_le V_ts_376.lt szq_r_514)
                have ne_tl_376_r_514 : tl_376 ≠ r_514 := Nat.ne_of_lt (Nat.lt_of_lt_of_le V_tl_376.lt szq_r_514)
                replace E_b374 := E_b374.keep Kq514
                replace V_b378 := V_b378.keep Kq514 (by exact nin0)
                replace F_b374_highestSequence := F_b374_highestSequence.keep Kq514 (by exact nin0)
                replace F_b374_messages := F_b374_messages.keep Kq514 (by exact nin0)
                replace F_b374_delivered := F_b374_delivered.keep Kq514 (by exact nin0)
                replace F_b374_late := F_b374_late.keep Kq514 (by exact nin0)
                replace F_b374_outOfOrder := F_b374_outOfOrder.keep Kq514 (by exact nin0)
                replace F_b374_duplicated := F_b374_duplicated.keep Kq514 (by exact nin0)
                replace F_b374_lastDeliveryNanos := F_b374_lastDeliveryNanos.keep Kq514 (by exact nin0)
                replace F_b374_seen := F_b374_seen.keep Kq514 (by exact nin0)
                replace F_b374_latenciesMicros := F_b374_latenciesMicros.keep Kq514 (by exact nin0)
                replace V_ts_376 := V_ts_376.keep Kq514 (by exact nin0)
                replace V_tl_376 := V_tl_376.keep Kq514 (by exact nin0)
                replace Z0 := Nat.le_trans Z0 Kq514.1
                clear Kq514
                have V_r_514 := nA514_r_514
                clear nA514_r_514
                show WP p.tables e below _ T514 (mkF m 265 #[.val (.long q1), .second, .val (.long q2), .second, .val (.long q3), .second, .val (.int p4), .val (.int p5), .val (.int p6), .val (.int (3 : Int32)), .val (.int s0), .val (.int s1), .val (.int s2), .val (.int la), .val (.int lb), .val (.int lc), .val (.ref b374), .val (.ref b378), .val (.int (2 : Int32)), .val (.int (0 : Int32)), .val (.int (0 : Int32))] [(.ref r_514)])
                have bk515 : ∀ t, Steps p.tables e below (T514.setTop (mkF m 269 #[.val (.long q1), .second, .val (.long q2), .second, .val (.long q3), .second, .val (.int p4), .val (.int p5), .val (.int p6), .val (.int (3 : Int32)), .val (.int s0), .val (.int s1), .val (.int s2), .val (.int la), .val (.int lb), .val (.int lc), .val (.ref b374), .val (.ref b378), .val (.int (2 : Int32)), .val (.ref r_514), .val (.int (0 : Int32))] [(.ref r_514)])) t → Steps p.tables e below (T514.setTop (mkF m 265 #[.val (.long q1), .second, .val (.long q2), .second, .val (.long q3), .second, .val (.int p4), .val (.int p5), .val (.int p6), .val (.int (3 : Int32)), .val (.int s0), .val (.int s1), .val (.int s2), .val (.int la), .val (.int lb), .val (.int lc), .val (.ref b374), .val (.ref b378), .val (.int (2 : Int32)), .val (.int (0 : Int32)), .val (.int (0 : Int32))] [(.ref r_514)])) t := fun t k => by
                  refine XS.astore X514.here hx rfl (hb hby at_265) rfl rfl (l' := #[.val (.long q1), .second, .val (.long q2), .second, .val (.long q3), .second, .val (.int p4), .val (.int p5), .val (.int p6), .val (.int (3 : Int32)), .val (.int s0), .val (.int s1), .val (.int s2), .val (.int la), .val (.int lb), .val (.int lc), .val (.ref b374), .val (.ref b378), .val (.int (2 : Int32)), .val (.ref r_514), .val (.int (0 : Int32))]) rfl ?_
                  refine XS.aload X514.here hx rfl (hb hby at_267) rfl rfl ?_
                  exact k
                refine WP.st bk515 ?_
                clear bk515
                obtain ⟨cl516, Ar516, len516⟩ := V_r_514.len
                have bk517 : ∀ t, Steps p.tables e below (T514.setTop (mkF m 286 #[.val (.long q1), .second, .val (.long q2), .second, .val (.long q3), .second, .val (.int p4), .val (.int p5), .val (.int p6), .val (.int (3 : Int32)), .val (.int s0), .val (.int s1), .val (.int s2), .val (.int la), .val (.int lb), .val (.int lc), .val (.ref b374), .val (.ref b378), .val (.int (2 : Int32)), .val (.ref r_514), .val (.int (0 : Int32))] [(.int (0 : Int32)), (.ref r_514)])) t → Steps p.tables e below (T514.setTop (mkF m 269 #[.val (.long q1), .second, .val (.long q2), .second, .val (.long q3), .second, .val (.int p4), .val (.int p5), .val (.int p6), .val (.int (3 : Int32)), .val (.int s0), .val (.int s1), .val (.int s2), .val (.int la), .val (.int lb), .val (.int lc), .val (.ref b374), .val (.ref b378), .val (.int (2 : Int32)), .val (.ref r_514), .val (.int (0 : Int32))] [(.ref r_514)])) t := fun t k => by
                  refine X514.arraylength hx (by rw [e514]; exact Ar516.1) (State.isArrayOf_alike hZ.alike Ar516.2.1) (g := (mkF m 269 #[.val (.long q1), .second, .val (.long q2), .second, .val (.long q3), .second, .val (.int p4), .val (.int p5), .val (.int p6), .val (.int (3 : Int32)), .val (.int s0), .val (.int s1), .val (.int s2), .val (.int la), .val (.int lb), .val (.int lc), .val (.ref b374), .val (.ref b378), .val (.int (2 : Int32)), .val (.ref r_514), .val (.int (0 : Int32))] [(.ref r_514)])) rfl rfl (hb hby at_269) _ ?_
                  rw [len516]
                  refine XS.iload X514.here hx rfl (hb hby at_270) rfl ?_
                  refine XS.icmpYes X514.here hx rfl (pc0 := 272) (pc' := 277) rfl (hb hby at_272) rfl (teq (by decide : (2 : Int32) = (2 : Int32))).1 (by decide) (by decide) ?_
                  refine XS.iload X514.here hx rfl (hb hby at_277) rfl ?_
                  show Steps p.tables e below (T514.setTop (mkF m 279 #[.val (.long q1), .second, .val (.long q2), .second, .val (.long q3), .second, .val (.int p4), .val (.int p5), .val (.int p6), .val (.int (3 : Int32)), .val (.int s0), .val (.int s1), .val (.int s2), .val (.int la), .val (.int lb), .val (.int lc), .val (.ref b374), .val (.ref b378), .val (.int (2 : Int32)), .val (.ref r_514), .val (.int (0 : Int32))] [(.int (2 : Int32))])) t
                  refine XS.iconst X514.here hx rfl (hb hby at_279) ?_
                  refine XS.icmpNo X514.here hx rfl (hb hby at_280) rfl (flt (by decide : ¬ ((2 : Int32) < (1 : Int32)))).1 ?_
                  refine XS.aload X514.here hx rfl (hb hby at_283) rfl rfl ?_
                  refine XS.iconst X514.here hx rfl (hb hby at_285) ?_
                  exact k
                refine WP.st bk517 ?_
                clear bk517
                obtain ⟨cl518, Ar518, hin518, hat518, -⟩ := V_r_514.rd (j := (0 : Int32)) ⟨by decide, by decide⟩
                replace hat518 : cl518.slots[((0 : Int32)).toNatClampNeg]? = some (.int (own_lat q1)) := hat518
                have bk519 : ∀ t, Steps p.tables e below (T514.setTop (mkF m 290 #[.val (.long q1), .second, .val (.long q2), .second, .val (.long q3), .second, .val (.int p4), .val (.int p5), .val (.int p6), .val (.int (3 : Int32)), .val (.int s0), .val (.int s1), .val (.int s2), .val (.int la), .val (.int lb), .val (.int lc), .val (.ref b374), .val (.ref b378), .val (.int (2 : Int32)), .val (.ref r_514), .val (.int (0 : Int32))] [(.int (0 : Int32)), (.ref b378), (.int (own_lat q1))])) t → Steps p.tables e below (T514.setTop (mkF m 286 #[.val (.long q1), .second, .val (.long q2), .second, .val (.long q3), .second, .val (.int p4), .val (.int p5), .val (.int p6), .val (.int (3 : Int32)), .val (.int s0), .val (.int s1), .val (.int s2), .val (.int la), .val (.int lb), .val (.int lc), .val (.ref b374), .val (.ref b378), .val (.int (2 : Int32)), .val (.ref r_514), .val (.int (0 : Int32))] [(.int (0 : Int32)), (.ref r_514)])) t := fun t k => by
                  refine X514.iaload hx (j := (0 : Int32)) (v := (.int (own_lat q1))) (by rw [e514]; exact Ar518.1) (State.isArrayOf_alike hZ.alike Ar518.2.1) Ar518.2.2 hin518 hat518 (g := (mkF m 286 #[.val (.long q1), .second, .val (.long q2), .second, .val (.long q3), .second, .val (.int p4), .val (.int p5), .val (.int p6), .val (.int (3 : Int32)), .val (.int s0), .val (.int s1), .val (.int s2), .val (.int la), .val (.int lb), .val (.int lc), .val (.ref b374), .val (.ref b378), .val (.int (2 : Int32)), .val (.ref r_514), .val (.int (0 : Int32))] [(.int (0 : Int32)), (.ref r_514)])) rfl rfl (hb hby at_286) _ ?_
                  refine XS.aload X514.here hx rfl (hb hby at_287) rfl rfl ?_
                  refine XS.iconst X514.here hx rfl (hb hby at_289) ?_
                  exact k
                refine WP.st bk519 ?_
                clear bk519
                obtain ⟨cl520, Ar520, hin520, hat520, -⟩ := V_b378.rd (j := (0 : Int32)) ⟨by decide, by decide⟩
                replace hat520 : cl520.slots[((0 : Int32)).toNatClampNeg]? = some (.int (own_mic q1)) := hat520
                have bk521 : ∀ t, Steps p.tables e below (T514.setTop (mkF m 305 #[.val (.long q1), .second, .val (.long q2), .second, .val (.long q3), .second, .val (.int p4), .val (.int p5), .val (.int p6), .val (.int (3 : Int32)), .val (.int s0), .val (.int s1), .val (.int s2), .val (.int la), .val (.int lb), .val (.int lc), .val (.ref b374), .val (.ref b378), .val (.int (2 : Int32)), .val (.ref r_514), .val (.int (0 : Int32))] [(.int (1 : Int32)), (.ref r_514)])) t → Steps p.tables e below (T514.setTop (mkF m 290 #[.val (.long q1), .second, .val (.long q2), .second, .val (.long q3), .second, .val (.int p4), .val (.int p5), .val (.int p6), .val (.int (3 : Int32)), .val (.int s0), .val (.int s1), .val (.int s2), .val (.int la), .val (.int lb), .val (.int lc), .val (.ref b374), .val (.ref b378), .val (.int (2 : Int32)), .val (.ref r_514), .val (.int (0 : Int32))] [(.int (0 : Int32)), (.ref b378), (.int (own_lat q1))])) t := fun t k => by
                  refine X514.iaload hx (j := (0 : Int32)) (v := (.int (own_mic q1))) (by rw [e514]; exact Ar520.1) (State.isArrayOf_alike hZ.alike Ar520.2.1) Ar520.2.2 hin520 hat520 (g := (mkF m 290 #[.val (.long q1), .second, .val (.long q2), .second, .val (.long q3), .second, .val (.int p4), .val (.int p5), .val (.int p6), .val (.int (3 : Int32)), .val (.int s0), .val (.int s1), .val (.int s2), .val (.int la), .val (.int lb), .val (.int lc), .val (.ref b374), .val (.ref b378), .val (.int (2 : Int32)), .val (.ref r_514), .val (.int (0 : Int32))] [(.int (0 : Int32)), (.ref b378), (.int (own_lat q1))])) rfl rfl (hb hby at_290) _ ?_
                  refine XS.icmpYes X514.here hx rfl (pc0 := 291) (pc' := 296) rfl (hb hby at_291) rfl (teq (own_lm q1)).1 (by decide) (by decide) ?_
                  refine XS.iload X514.here hx rfl (hb hby at_296) rfl ?_
                  refine XS.iconst X514.here hx rfl (hb hby at_298) ?_
                  show Steps p.tables e below (T514.setTop (mkF m 299 #[.val (.long q1), .second, .val (.long q2), .second, .val (.long q3), .second, .val (.int p4), .val (.int p5), .val (.int p6), .val (.int (3 : Int32)), .val (.int s0), .val (.int s1), .val (.int s2), .val (.int la), .val (.int lb), .val (.int lc), .val (.ref b374), .val (.ref b378), .val (.int (2 : Int32)), .val (.ref r_514), .val (.int (0 : Int32))] [(.int (2 : Int32)), (.int (2 : Int32))])) t
                  refine XS.icmpNo X514.here hx rfl (hb hby at_299) rfl (flt (by decide : ¬ ((2 : Int32) < (2 : Int32)))).1 ?_
                  refine XS.aload X514.here hx rfl (hb hby at_302) rfl rfl ?_
                  refine XS.iconst X514.here hx rfl (hb hby at_304) ?_
                  exact k
                refine WP.st bk521 ?_
                clear bk521
                obtain ⟨cl522, Ar522, hin522, hat522, -⟩ := V_r_514.rd (j := (1 : Int32)) ⟨by decide, by decide⟩
                replace hat522 : cl522.slots[((1 : Int32)).toNatClampNeg]? = some (.int (own_lat q2)) := hat522
                have bk523 : ∀ t, Steps p.tables e below (T514.setTop (mkF m 309 #[.val (.long q1), .second, .val (.long q2), .second, .val (.long q3), .second, .val (.int p4), .val (.int p5), .val (.int p6), .val (.int (3 : Int32)), .val (.int s0), .val (.int s1), .val (.int s2), .val (.int la), .val (.int lb), .val (.int lc), .val (.ref b374), .val (.ref b378), .val (.int (2 : Int32)), .val (.ref r_514), .val (.int (0 : Int32))] [(.int (1 : Int32)), (.ref b378), (.int (own_lat q2))])) t → Steps p.tables e below (T514.setTop (mkF m 305 #[.val (.long q1), .second, .val (.long q2), .second, .val (.long q3), .second, .val (.int p4), .val (.int p5), .val (.int p6), .val (.int (3 : Int32)), .val (.int s0), .val (.int s1), .val (.int s2), .val (.int la), .val (.int lb), .val (.int lc), .val (.ref b374), .val (.ref b378), .val (.int (2 : Int32)), .val (.ref r_514), .val (.int (0 : Int32))] [(.int (1 : Int32)), (.ref r_514)])) t := fun t k => by
                  refine X514.iaload hx (j := (1 : Int32)) (v := (.int (own_lat q2))) (by rw [e514]; exact Ar522.1) (State.isArrayOf_alike hZ.alike Ar522.2.1) Ar522.2.2 hin522 hat522 (g := (mkF m 305 #[.val (.long q1), .second, .val (.long q2), .second, .val (.long q3), .second, .val (.int p4), .val (.int p5), .val (.int p6), .val (.int (3 : Int32)), .val (.int s0), .val (.int s1), .val (.int s2), .val (.int la), .val (.int lb), .val (.int lc), .val (.ref b374), .val (.ref b378), .val (.int (2 : Int32)), .val (.ref r_514), .val (.int (0 : Int32))] [(.int (1 : Int32)), (.ref r_514)])) rfl rfl (hb hby at_305) _ ?_
                  refine XS.aload X514.here hx rfl (hb hby at_306) rfl rfl ?_
                  refine XS.iconst X514.here hx rfl (hb hby at_308) ?_
                  exact k
                refine WP.st bk523 ?_
                clear bk523
                obtain ⟨cl524, Ar524, hin524, hat524, -⟩ := V_b378.rd (j := (1 : Int32)) ⟨by decide, by decide⟩
                replace hat524 : cl524.slots[((1 : Int32)).toNatClampNeg]? = some (.int (own_mic q2)) := hat524
                have bk525 : ∀ t, Steps p.tables e below (T514.setTop (mkF m 335 #[.val (.long q1), .second, .val (.long q2), .second, .val (.long q3), .second, .val (.int p4), .val (.int p5), .val (.int p6), .val (.int (3 : Int32)), .val (.int s0), .val (.int s1), .val (.int s2), .val (.int la), .val (.int lb), .val (.int lc), .val (.ref b374), .val (.ref b378), .val (.int (2 : Int32)), .val (.ref r_514), .val (.int (0 : Int32))] [(.int (1 : Int32))])) t → Steps p.tables e below (T514.setTop (mkF m 309 #[.val (.long q1), .second, .val (.long q2), .second, .val (.long q3), .second, .val (.int p4), .val (.int p5), .val (.int p6), .val (.int (3 : Int32)), .val (.int s0), .val (.int s1), .val (.int s2), .val (.int la), .val (.int lb), .val (.int lc), .val (.ref b374), .val (.ref b378), .val (.int (2 : Int32)), .val (.ref r_514), .val (.int (0 : Int32))] [(.int (1 : Int32)), (.ref b378), (.int (own_lat q2))])) t := fun t k => by
                  refine X514.iaload hx (j := (1 : Int32)) (v := (.int (own_mic q2))) (by rw [e514]; exact Ar524.1) (State.isArrayOf_alike hZ.alike Ar524.2.1) Ar524.2.2 hin524 hat524 (g := (mkF m 309 #[.val (.long q1), .second, .val (.long q2), .second, .val (.long q3), .second, .val (.int p4), .val (.int p5), .val (.int p6), .val (.int (3 : Int32)), .val (.int s0), .val (.int s1), .val (.int s2), .val (.int la), .val (.int lb), .val (.int lc), .val (.ref b374), .val (.ref b378), .val (.int (2 : Int32)), .val (.ref r_514), .val (.int (0 : Int32))] [(.int (1 : Int32)), (.ref b378), (.int (own_lat q2))])) rfl rfl (hb hby at_309) _ ?_
                  refine XS.icmpYes X514.here hx rfl (pc0 := 310) (pc' := 315) rfl (hb hby at_310) rfl (teq (own_lm q2)).1 (by decide) (by decide) ?_
                  refine XS.iload X514.here hx rfl (hb hby at_315) rfl ?_
                  refine XS.iconst X514.here hx rfl (hb hby at_317) ?_
                  show Steps p.tables e below (T514.setTop (mkF m 318 #[.val (.long q1), .second, .val (.long q2), .second, .val (.long q3), .second, .val (.int p4), .val (.int p5), .val (.int p6), .val (.int (3 : Int32)), .val (.int s0), .val (.int s1), .val (.int s2), .val (.int la), .val (.int lb), .val (.int lc), .val (.ref b374), .val (.ref b378), .val (.int (2 : Int32)), .val (.ref r_514), .val (.int (0 : Int32))] [(.int (3 : Int32)), (.int (2 : Int32))])) t
                  refine XS.icmpYes X514.here hx rfl (pc0 := 318) (pc' := 334) rfl (hb hby at_318) rfl (tlt (by decide : (2 : Int32) < (3 : Int32))).1 (by decide) (by decide) ?_
                  refine XS.iconst X514.here hx rfl (hb hby at_334) ?_
                  exact k
                refine WP.st bk525 ?_
                clear bk525
                subst hG
                obtain ⟨fs, hr, hrun, hended, hW, hsame⟩ := X514.leave (v := some (.int (1 : Int32))) (fun h => by rw [Bd.returns] at h; cases h)
                refine WP.fin ⟨_, _, ?_, hrun, hended, _, _, rfl, ?_, ⟨_, rfl⟩, hW, hsame.mono (by decide) (by decide)⟩
                · exact retN X514 hx (t := .boolean) Bd.returns (by simp) (hb hby at_335) hr
                · show Q0 Z q1 q2 q3 p4 p5 p6 h0 n0 _ T514.heap _
                  rw [e514]
                  exact ⟨rfl, NF⟩
              · skip
                have bk526 : ∀ t, Steps p.tables e below (T490.setTop (mkF m 228 #[.val (.long q1), .second, .val (.long q2), .second, .val (.long q3), .second, .val (.int p4), .val (.int p5), .val (.int p6), .val (.int (3 : Int32)), .val (.int s0), .val (.int s1), .val (.int s2), .val (.int la), .val (.int lb), .val (.int lc), .val (.ref b374), .val (.ref b378), .val (.int (2 : Int32)), .val (.int (1 : Int32)), .val (.int (1 : Int32))] [(.int lc), (.long (2 : Int64)), (.long q3), (.int s2), (.ref b374)])) t → Steps p.tables e below (T490.setTop (mkF m 207 #[.val (.long q1), .second, .val (.long q2), .second, .val (.long q3), .second, .val (.int p4), .val (.int p5), .val (.int p6), .val (.int (3 : Int32)), .val (.int s0), .val (.int s1), .val (.int s2), .val (.int la), .val (.int lb), .val (.int lc), .val (.ref b374), .val (.ref b378), .val (.int (2 : Int32)), .val (.int (1 : Int32)), .val (.int (1 : Int32))] [(.int s1), (.int s2)])) t := fun t k => by
                  refine XS.icmpNo X490.here hx rfl (hb hby at_207) rfl (feq hc509).1 ?_
                  refine XS.iconst X490.here hx rfl (hb hby at_210) ?_
                  refine XS.goto X490.here hx rfl (pc0 := 211) (pc' := 215) rfl (hb hby at_211) (by decide) (by decide) ?_
                  refine XS.istore X490.here hx rfl (hb hby at_215) rfl (l' := #[.val (.long q1), .second, .val (.long q2), .second, .val (.long q3), .second, .val (.int p4), .val (.int p5), .val (.int p6), .val (.int (3 : Int32)), .val (.int s0), .val (.int s1), .val (.int s2), .val (.int la), .val (.int lb), .val (.int lc), .val (.ref b374), .val (.ref b378), .val (.int (2 : Int32)), .val (.int (1 : Int32)), .val (.int (1 : Int32))]) rfl ?_
                  show Steps p.tables e below (T490.setTop (mkF m 217 #[.val (.long q1), .second, .val (.long q2), .second, .val (.long q3), .second, .val (.int p4), .val (.int p5), .val (.int p6), .val (.int (3 : Int32)), .val (.int s0), .val (.int s1), .val (.int s2), .val (.int la), .val (.int lb), .val (.int lc), .val (.ref b374), .val (.ref b378), .val (.int (2 : Int32)), .val (.int (1 : Int32)), .val (.int (1 : Int32))] [])) t
                  refine XS.aload X490.here hx rfl (hb hby at_217) rfl rfl ?_
                  refine XS.iload X490.here hx rfl (hb hby at_219) rfl ?_
                  refine XS.lload X490.here hx rfl (hb hby at_221) rfl ?_
                  refine X490.ldc2Long hx hown (mvT hZ (hw _ (List.mem_of_getElem? (i := 45) rfl))) (g := (mkF m 223 #[.val (.long q1), .second, .val (.long q2), .second, .val (.long q3), .second, .val (.int p4), .val (.int p5), .val (.int p6), .val (.int (3 : Int32)), .val (.int s0), .val (.int s1), .val (.int s2), .val (.int la), .val (.int lb), .val (.int lc), .val (.ref b374), .val (.ref b378), .val (.int (2 : Int32)), .val (.int (1 : Int32)), .val (.int (1 : Int32))] [(.long q3), (.int s2), (.ref b374)])) rfl (hb hby at_223) _ ?_
                  show Steps p.tables e below (T490.setTop (mkF m 226 #[.val (.long q1), .second, .val (.long q2), .second, .val (.long q3), .second, .val (.int p4), .val (.int p5), .val (.int p6), .val (.int (3 : Int32)), .val (.int s0), .val (.int s1), .val (.int s2), .val (.int la), .val (.int lb), .val (.int lc), .val (.ref b374), .val (.ref b378), .val (.int (2 : Int32)), .val (.int (1 : Int32)), .val (.int (1 : Int32))] [(.long (2 : Int64)), (.long q3), (.int s2), (.ref b374)])) t
                  refine XS.iload X490.here hx rfl (hb hby at_226) rfl ?_
                  exact k
                refine WP.st bk526 ?_
                clear bk526
                obtain ⟨cq527, kq527, q527a, q527b, q527c⟩ := isOf hZ e490 E_b374
                obtain ⟨_, _, ⟨T527, L527, k527, n527⟩, -, X527, ⟨Lc527, hQ527, l527, y527, z527⟩, st527⟩ := X490.virtualBack hx (y := (⟨"com/example/otayori/otayori/bench/PairTally", "record", "(IJJZ)Z"⟩ : MethodName)) (z := (⟨"com/example/otayori/otayori/bench/PairTally", "record", "(IJJZ)Z"⟩ : MethodName)) hown (mvT hZ (hw _ (List.mem_of_getElem? (i := 19) rfl))) (mvT hZ (hw _ (List.mem_of_getElem? (i := 20) rfl))) (notFace_of_selects (args := #[]) (mvT hZ (hw _ (List.mem_of_getElem? (i := 22) rfl)))) (mvT hZ (hw _ (List.mem_of_getElem? (i := 22) rfl))) (mvT hZ (hw _ (List.mem_of_getElem? (i := 21) rfl))) (by decide) (backOf (W := 0) (rm3f2 l Z a0 hw [] b374 s2 q3 (2 : Int64) lc s1_486 (8 : Int32) d1_486 l1_486 o1_486 (0 : Int64) n1_486 ts_376 ks_376 tl_376 kl_376 (((0 : Int64) ||| (own_bit s0)) ||| (own_bit s1)) (.int (own_lat q1)) (.int (own_lat q2)) (.int (0 : Int32)) (.int (0 : Int32)) (.int (0 : Int32)) (.int (0 : Int32)) (.int (0 : Int32)) (.int (0 : Int32)) (.int (0 : Int32)) (.int (0 : Int32)) (.int (0 : Int32)) (.int (0 : Int32)) (.int (0 : Int32)) (.int (0 : Int32)) (.int (0 : Int32)) (.int (0 : Int32)) h490 n0 Z0 E_b374 g_b374 F_b374_highestSequence F_b374_messages F_b374_delivered F_b374_late F_b374_outOfOrder F_b374_duplicated F_b374_lastDeliveryNanos F_b374_seen F_b374_latenciesMicros V_ts_376 V_tl_376 g_ts_376 g_tl_376 ne_b374_ts_376 ne_b374_tl_376 ne_tl_376_ts_376 (hs2 : own_small s2) ((lw_eq _ _).2 ((own_b2 hs0 hs1 hs2).2 ⟨hc492, hc509⟩)) (hde1_486 : d1_486 + l1_486 = (2 : Int64))) hZ (hw _ (List.mem_of_getElem? (i := 23) rfl)) (hw _ (List.mem_of_getElem? (i := 2) rfl)) (by decide) (by decide)) q527a q527c (g := (mkF m 228 #[.val (.long q1), .second, .val (.long q2), .second, .val (.long q3), .second, .val (.int p4), .val (.int p5), .val (.int p6), .val (.int (3 : Int32)), .val (.int s0), .val (.int s1), .val (.int s2), .val (.int la), .val (.int lb), .val (.int lc), .val (.ref b374), .val (.ref b378), .val (.int (2 : Int32)), .val (.int (1 : Int32)), .val (.int (1 : Int32))] [(.int lc), (.long (2 : Int64)), (.long q3), (.int s2), (.ref b374)])) rfl (by rw [hml]; rfl) (Steps.refl _) (argsL := [(.int s2), (.long q3), (.long (2 : Int64)), (.int lc)]) (rest := []) (lenOf pd_5 rfl) rfl (by show 2 * 0 + _ ≤ _; exact Nat.le_of_eq rfl) (hb hby at_228) (fun _ _ => ⟨rfl, e490, (by decide : 4 + 0 ≤ _), (by decide : 29 + 0 ≤ _)⟩)
                dsimp only [Pt.U, Pt.locs, Pt.cells, Pt.slots] at X527 l527 y527 z527 st527 hQ527
                subst l527 y527 z527
                obtain ⟨d1_527, l1_527, s1_527, o1_527, n1_527, rfl, Nq527, Kq527, nF527_b374_highestSequence, nF527_b374_messages, nF527_b374_delivered, nF527_b374_late, nF527_b374_outOfOrder, nF527_b374_duplicated, nF527_b374_lastDeliveryNanos, nF527_b374_seen, nF527_b374_latenciesMicros, nA527_ts_376, nA527_tl_376, hde1_527⟩ := hQ527
                replace NF := Fr.app NF Nq527
                clear Nq527
                refine WP.tr st527 ?_
                clear st527
                obtain ⟨h527, e527⟩ : ∃ h, T527.heap = h := ⟨_, rfl⟩
                rw [e527] at Kq527 nF527_b374_highestSequence nF527_b374_messages nF527_b374_delivered nF527_b374_late nF527_b374_outOfOrder nF527_b374_duplicated nF527_b374_lastDeliveryNanos nF527_b374_seen nF527_b374_latenciesMicros nA527_ts_376 nA527_tl_376
                replace E_b374 := E_b374.keep Kq527
                clear F_b374_highestSequence
                clear F_b374_messages
                clear F_b374_delivered
                clear F_b374_late
                clear F_b374_outOfOrder
                clear F_b374_duplicated
                clear F_b374_lastDeliveryNanos
                clear F_b374_seen
                clear F_b374_latenciesMicros
                clear V_ts_376
                clear V_tl_376
                replace V_b378 := V_b378.keep Kq527 (by exact ninS (Ne.symm ne_b374_b378) (ninS (Ne.symm ne_ts_376_b378) (ninS (Ne.symm ne_tl_376_b378) (nin0))))
                replace Z0 := Nat.le_trans Z0 Kq527.1
                clear Kq527
                have F_b374_highestSequence := nF527_b374_highestSequence
                clear nF527_b374_highestSequence
                have F_b374_messages := nF527_b374_messages
                clear nF527_b374_messages
                have F_b374_delivered := nF527_b374_delivered
                clear nF527_b374_delivered
                have F_b374_late := nF527_b374_late
                clear nF527_b374_late
                have F_b374_outOfOrder := nF527_b374_outOfOrder
                clear nF527_b374_outOfOrder
                have F_b374_duplicated := nF527_b374_duplicated
                clear nF527_b374_duplicated
                have F_b374_lastDeliveryNanos := nF527_b374_lastDeliveryNanos
                clear nF527_b374_lastDeliveryNanos
                have F_b374_seen := nF527_b374_seen
                clear nF527_b374_seen
                have F_b374_latenciesMicros := nF527_b374_latenciesMicros
                clear nF527_b374_latenciesMicros
                have V_ts_376 := nA527_ts_376
                clear nA527_ts_376
                have V_tl_376 := nA527_tl_376
                clear nA527_tl_376
                show WP p.tables e below _ T527 (mkF m 231 #[.val (.long q1), .second, .val (.long q2), .second, .val (.long q3), .second, .val (.int p4), .val (.int p5), .val (.int p6), .val (.int (3 : Int32)), .val (.int s0), .val (.int s1), .val (.int s2), .val (.int la), .val (.int lb), .val (.int lc), .val (.ref b374), .val (.ref b378), .val (.int (2 : Int32)), .val (.int (1 : Int32)), .val (.int (1 : Int32))] [(.int (1 : Int32))])
                have bk528 : ∀ t, Steps p.tables e below (T527.setTop (mkF m 253 #[.val (.long q1), .second, .val (.long q2), .second, .val (.long q3), .second, .val (.int p4), .val (.int p5), .val (.int p6), .val (.int (3 : Int32)), .val (.int s0), .val (.int s1), .val (.int s2), .val (.int la), .val (.int lb), .val (.int lc), .val (.ref b374), .val (.ref b378), .val (.int (2 : Int32)), .val (.int (1 : Int32)), .val (.int (1 : Int32))] [(.long q3), (.int (2 : Int32)), (.ref b378)])) t → Steps p.tables e below (T527.setTop (mkF m 231 #[.val (.long q1), .second, .val (.long q2), .second, .val (.long q3), .second, .val (.int p4), .val (.int p5), .val (.int p6), .val (.int (3 : Int32)), .val (.int s0), .val (.int s1), .val (.int s2), .val (.int la), .val (.int lb), .val (.int lc), .val (.ref b374), .val (.ref b378), .val (.int (2 : Int32)), .val (.int (1 : Int32)), .val (.int (1 : Int32))] [(.int (1 : Int32))])) t := fun t k => by
                  refine XS.istore X527.here hx rfl (hb hby at_231) rfl (l' := #[.val (.long q1), .second, .val (.long q2), .second, .val (.long q3), .second, .val (.int p4), .val (.int p5), .val (.int p6), .val (.int (3 : Int32)), .val (.int s0), .val (.int s1), .val (.int s2), .val (.int la), .val (.int lb), .val (.int lc), .val (.ref b374), .val (.ref b378), .val (.int (2 : Int32)), .val (.int (1 : Int32)), .val (.int (1 : Int32))]) rfl ?_
                  refine XS.iload X527.here hx rfl (hb hby at_233) rfl ?_
                  refine XS.iload X527.here hx rfl (hb hby at_235) rfl ?_
                  refine XS.icmpYes X527.here hx rfl (pc0 := 237) (pc' := 242) rfl (hb hby at_237) rfl (teq (by decide : (1 : Int32) = (1 : Int32))).1 (by decide) (by decide) ?_
                  show Steps p.tables e below (T527.setTop (mkF m 242 #[.val (.long q1), .second, .val (.long q2), .second, .val (.long q3), .second, .val (.int p4), .val (.int p5), .val (.int p6), .val (.int (3 : Int32)), .val (.int s0), .val (.int s1), .val (.int s2), .val (.int la), .val (.int lb), .val (.int lc), .val (.ref b374), .val (.ref b378), .val (.int (2 : Int32)), .val (.int (1 : Int32)), .val (.int (1 : Int32))] [])) t
                  refine XS.iload X527.here hx rfl (hb hby at_242) rfl ?_
                  refine XS.ifNo X527.here hx rfl (hb hby at_244) rfl ((if0 _ _).trans (feq (by decide : ¬ ((1 : Int32) = (0 : Int32)))).1) ?_
                  refine XS.aload X527.here hx rfl (hb hby at_247) rfl rfl ?_
                  refine XS.iload X527.here hx rfl (hb hby at_249) rfl ?_
                  show Steps p.tables e below (T527.setTop (mkF m 251 #[.val (.long q1), .second, .val (.long q2), .second, .val (.long q3), .second, .val (.int p4), .val (.int p5), .val (.int p6), .val (.int (3 : Int32)), .val (.int s0), .val (.int s1), .val (.int s2), .val (.int la), .val (.int lb), .val (.int lc), .val (.ref b374), .val (.ref b378), .val (.int (2 : Int32)), .val (.int (1 : Int32)), .val (.int (1 : Int32))] [(.int (2 : Int32)), (.ref b378)])) t
                  refine XS.lload X527.here hx rfl (hb hby at_251) rfl ?_
                  exact k
                refine WP.st bk528 ?_
                clear bk528
                obtain ⟨_, _, ⟨T529, L529, k529, n529⟩, -, X529, ⟨Lc529, hQ529, l529, y529, z529⟩, st529⟩ := Jvm.LawKit.callS X527 hx (y := (⟨"com/example/otayori/otayori/bench/PairTallyLatenciesPinLaw", "micros", "(J)I"⟩ : MethodName)) hown (mvT hZ (hw _ (List.mem_of_getElem? (i := 37) rfl))) (mvT hZ (hw _ (List.mem_of_getElem? (i := 38) rfl))) (mvT hZ (hw _ (List.mem_of_getElem? (i := 39) rfl))) (mvT hZ (hw _ (List.mem_of_getElem? (i := 40) rfl))) (by decide) (backOf (W := 2) (rm6 l Z a0 hw [] q3 h527 n0 Z0 ) hZ (hw _ (List.mem_of_getElem? (i := 40) rfl)) (hw _ (List.mem_of_getElem? (i := 39) rfl)) (by decide) (by decide)) (g := (mkF m 253 #[.val (.long q1), .second, .val (.long q2), .second, .val (.long q3), .second, .val (.int p4), .val (.int p5), .val (.int p6), .val (.int (3 : Int32)), .val (.int s0), .val (.int s1), .val (.int s2), .val (.int la), .val (.int lb), .val (.int lc), .val (.ref b374), .val (.ref b378), .val (.int (2 : Int32)), .val (.int (1 : Int32)), .val (.int (1 : Int32))] [(.long q3), (.int (2 : Int32)), (.ref b378)])) rfl (by rw [hml]; rfl) (argsL := [(.long q3)]) (rest := [(.int (2 : Int32)), (.ref b378)]) (lenOf pd_6 rfl) rfl (by show 2 * 0 + _ ≤ _; exact Nat.le_of_eq rfl) (hb hby at_253) (fun _ _ => ⟨rfl, e527, (by decide : 4 + 0 ≤ _), (by decide : 29 + 0 ≤ _)⟩)
                dsimp only [Pt.U, Pt.locs, Pt.cells, Pt.slots] at X529 l529 y529 z529 st529 hQ529
                subst l529 y529 z529
                obtain ⟨rfl, Nq529, Kq529⟩ := hQ529
                replace NF := Fr.app NF Nq529
                clear Nq529
                refine WP.st st529 ?_
                clear st529
                replace Kq529 := Kq529.trans (rfl : h527 = h527)
                show WP p.tables e below _ T529 (mkF m 256 #[.val (.long q1), .second, .val (.long q2), .second, .val (.long q3), .second, .val (.int p4), .val (.int p5), .val (.int p6), .val (.int (3 : Int32)), .val (.int s0), .val (.int s1), .val (.int s2), .val (.int la), .val (.int lb), .val (.int lc), .val (.ref b374), .val (.ref b378), .val (.int (2 : Int32)), .val (.int (1 : Int32)), .val (.int (1 : Int32))] [(.int (own_mic q3)), (.int (2 : Int32)), (.ref b378)])
                obtain ⟨cl530, Ar530, q530, S530, N530, H530, G530⟩ := V_b378
                have hin530 : ¬ ((2 : Int32) < 0 ∨ cl530.slots.size ≤ ((2 : Int32)).toNatClampNeg) := inb_of S530 ⟨by decide, by decide⟩
                obtain ⟨T531, h531, X531, e531, W531, st531⟩ := stI X529 hx hZ Kq529 Ar530 (j := (2 : Int32)) hin530 (g := (mkF m 256 #[.val (.long q1), .second, .val (.long q2), .second, .val (.long q3), .second, .val (.int p4), .val (.int p5), .val (.int p6), .val (.int (3 : Int32)), .val (.int s0), .val (.int s1), .val (.int s2), .val (.int la), .val (.int lb), .val (.int lc), .val (.ref b374), .val (.ref b378), .val (.int (2 : Int32)), .val (.int (1 : Int32)), .val (.int (1 : Int32))] [(.int (own_mic q3)), (.int (2 : Int32)), (.ref b378)])) rfl rfl (hb hby at_256)
                refine WP.st st531 ?_
                clear st531
                have Vn : Arv Z h531 b378 k378 .int (3 : Int32) [(.int (own_mic q1)), (.int (own_mic q2)), (.int (own_mic q3))] (.int (0 : Int32)) := Arv.set Ar530 q530 S530 N530 H530 G530 rfl W531 2 rfl (Nat.le_of_ble_eq_true rfl)
                replace E_b374 := E_b374.wr W531
                replace F_b374_highestSequence := F_b374_highestSequence.other W531 (Or.inl ne_b374_b378)
                replace F_b374_messages := F_b374_messages.other W531 (Or.inl ne_b374_b378)
                replace F_b374_delivered := F_b374_delivered.other W531 (Or.inl ne_b374_b378)
                replace F_b374_late := F_b374_late.other W531 (Or.inl ne_b374_b378)
                replace F_b374_outOfOrder := F_b374_outOfOrder.other W531 (Or.inl ne_b374_b378)
                replace F_b374_duplicated := F_b374_duplicated.other W531 (Or.inl ne_b374_b378)
                replace F_b374_lastDeliveryNanos := F_b374_lastDeliveryNanos.other W531 (Or.inl ne_b374_b378)
                replace F_b374_seen := F_b374_seen.other W531 (Or.inl ne_b374_b378)
                replace F_b374_latenciesMicros := F_b374_latenciesMicros.other W531 (Or.inl ne_b374_b378)
                replace V_ts_376 := V_ts_376.other W531 ne_ts_376_b378
                replace V_tl_376 := V_tl_376.other W531 ne_tl_376_b378
                replace Z0 := Nat.le_trans Z0 (Keep.of_wr W531).1
                replace V_b378 := Vn
                replace NF := Fr.snoc X531 NF g_b378
                clear W531 hin530 q530 S530 N530 H530 G530 Ar530
                show WP p.tables e below _ T531 (mkF m 257 #[.val (.long q1), .second, .val (.long q2), .second, .val (.long q3), .second, .val (.int p4), .val (.int p5), .val (.int p6), .val (.int (3 : Int32)), .val (.int s0), .val (.int s1), .val (.int s2), .val (.int la), .val (.int lb), .val (.int lc), .val (.ref b374), .val (.ref b378), .val (.int (2 : Int32)), .val (.int (1 : Int32)), .val (.int (1 : Int32))] [])
                have bk532 : ∀ t, Steps p.tables e below (T531.setTop (mkF m 260 #[.val (.long q1), .second, .val (.long q2), .second, .val (.long q3), .second, .val (.int p4), .val (.int p5), .val (.int p6), .val (.int (3 : Int32)), .val (.int s0), .val (.int s1), .val (.int s2), .val (.int la), .val (.int lb), .val (.int lc), .val (.ref b374), .val (.ref b378), .val (.int ((2 : Int32) + (1 : Int32))), .val (.int (1 : Int32)), .val (.int (1 : Int32))] [])) t → Steps p.tables e below (T531.setTop (mkF m 257 #[.val (.long q1), .second, .val (.long q2), .second, .val (.long q3), .second, .val (.int p4), .val (.int p5), .val (.int p6), .val (.int (3 : Int32)), .val (.int s0), .val (.int s1), .val (.int s2), .val (.int la), .val (.int lb), .val (.int lc), .val (.ref b374), .val (.ref b378), .val (.int (2 : Int32)), .val (.int (1 : Int32)), .val (.int (1 : Int32))] [])) t := fun t k => by
                  refine XS.iinc X531.here hx rfl (hb hby at_257) rfl (l' := #[.val (.long q1), .second, .val (.long q2), .second, .val (.long q3), .second, .val (.int p4), .val (.int p5), .val (.int p6), .val (.int (3 : Int32)), .val (.int s0), .val (.int s1), .val (.int s2), .val (.int la), .val (.int lb), .val (.int lc), .val (.ref b374), .val (.ref b378), .val (.int ((2 : Int32) + (1 : Int32))), .val (.int (1 : Int32)), .val (.int (1 : Int32))]) rfl ?_
                  exact k
                refine WP.st bk532 ?_
                clear bk532
                rw [show ((2 : Int32) + (1 : Int32)) = (3 : Int32) from by decide]
                show WP p.tables e below _ T531 (mkF m 260 #[.val (.long q1), .second, .val (.long q2), .second, .val (.long q3), .second, .val (.int p4), .val (.int p5), .val (.int p6), .val (.int (3 : Int32)), .val (.int s0), .val (.int s1), .val (.int s2), .val (.int la), .val (.int lb), .val (.int lc), .val (.ref b374), .val (.ref b378), .val (.int (3 : Int32)), .val (.int (1 : Int32)), .val (.int (1 : Int32))] [])
                have bk533 : ∀ t, Steps p.tables e below (T531.setTop (mkF m 262 #[.val (.long q1), .second, .val (.long q2), .second, .val (.long q3), .second, .val (.int p4), .val (.int p5), .val (.int p6), .val (.int (3 : Int32)), .val (.int s0), .val (.int s1), .val (.int s2), .val (.int la), .val (.int lb), .val (.int lc), .val (.ref b374), .val (.ref b378), .val (.int (3 : Int32)), .val (.int (1 : Int32)), .val (.int (1 : Int32))] [(.ref b374)])) t → Steps p.tables e below (T531.setTop (mkF m 260 #[.val (.long q1), .second, .val (.long q2), .second, .val (.long q3), .second, .val (.int p4), .val (.int p5), .val (.int p6), .val (.int (3 : Int32)), .val (.int s0), .val (.int s1), .val (.int s2), .val (.int la), .val (.int lb), .val (.int lc), .val (.ref b374), .val (.ref b378), .val (.int (3 : Int32)), .val (.int (1 : Int32)), .val (.int (1 : Int32))] [])) t := fun t k => by
                  refine XS.aload X531.here hx rfl (hb hby at_260) rfl rfl ?_
                  exact k
                refine WP.st bk533 ?_
                clear bk533
                obtain ⟨cq534, kq534, q534a, q534b, q534c⟩ := isOf hZ e531 E_b374
                obtain ⟨_, _, ⟨T534, L534, k534, n534⟩, -, X534, ⟨Lc534, hQ534, l534, y534, z534⟩, st534⟩ := X531.virtualBack hx (y := (⟨"com/example/otayori/otayori/bench/PairTally", "latencies", "()[I"⟩ : MethodName)) (z := (⟨"com/example/otayori/otayori/bench/PairTally", "latencies", "()[I"⟩ : MethodName)) hown (mvT hZ (hw _ (List.mem_of_getElem? (i := 48) rfl))) (mvT hZ (hw _ (List.mem_of_getElem? (i := 49) rfl))) (notFace_of_selects (args := #[]) (mvT hZ (hw _ (List.mem_of_getElem? (i := 51) rfl)))) (mvT hZ (hw _ (List.mem_of_getElem? (i := 51) rfl))) (mvT hZ (hw _ (List.mem_of_getElem? (i := 50) rfl))) (by decide) (backOf (W := 0) (rm7k3 l Z a0 hw [] b374 tl_376 kl_376 d1_527 l1_527 (.int (own_lat q1)) (.int (own_lat q2)) (.int (own_lat q3)) (.int (0 : Int32)) (.int (0 : Int32)) (.int (0 : Int32)) (.int (0 : Int32)) (.int (0 : Int32)) (.int (0 : Int32)) (.int (0 : Int32)) (.int (0 : Int32)) (.int (0 : Int32)) (.int (0 : Int32)) (.int (0 : Int32)) (.int (0 : Int32)) (.int (0 : Int32)) h531 n0 Z0 F_b374_latenciesMicros F_b374_delivered F_b374_late V_tl_376 (hde1_527 : d1_527 + l1_527 = (3 : Int64))) hZ (hw _ (List.mem_of_getElem? (i := 52) rfl)) (hw _ (List.mem_of_getElem? (i := 2) rfl)) (by decide) (by decide)) q534a q534c (g := (mkF m 262 #[.val (.long q1), .second, .val (.long q2), .second, .val (.long q3), .second, .val (.int p4), .val (.int p5), .val (.int p6), .val (.int (3 : Int32)), .val (.int s0), .val (.int s1), .val (.int s2), .val (.int la), .val (.int lb), .val (.int lc), .val (.ref b374), .val (.ref b378), .val (.int (3 : Int32)), .val (.int (1 : Int32)), .val (.int (1 : Int32))] [(.ref b374)])) rfl (by rw [hml]; rfl) (Steps.refl _) (argsL := []) (rest := []) (lenOf pd_4 rfl) rfl (by show 2 * 0 + _ ≤ _; exact Nat.le_of_eq rfl) (hb hby at_262) (fun _ _ => ⟨rfl, e531, (by decide : 4 + 1 ≤ _), (by decide : 29 + 3 ≤ _)⟩)
                dsimp only [Pt.U, Pt.locs, Pt.cells, Pt.slots] at X534 l534 y534 z534 st534 hQ534
                subst l534 y534 z534
                obtain ⟨r_534, kr_534, rfl, Nq534, Kq534, szq_r_534, nA534_r_534⟩ := hQ534
                replace NF := Fr.app NF Nq534
                clear Nq534
                refine WP.tr st534 ?_
                clear st534
                obtain ⟨h534, e534⟩ : ∃ h, T534.heap = h := ⟨_, rfl⟩
                rw [e534] at Kq534 nA534_r_534
                have ne_b374_r_534 : b374 ≠ r_534 := Nat.ne_of_lt (Nat.lt_of_lt_of_le E_b374.lt szq_r_534)
                have ne_ts_376_r_534 : ts_376 ≠ r_534 := Nat.ne_of_lt (Nat.lt_of_lt_of_le V_ts_376.lt szq_r_534)
                have ne_tl_376_r_534 : tl_376 ≠ r_534 := Nat.ne_of_lt (Nat.lt_of_lt_of_le V_tl_376.lt szq_r_534)
                have ne_b378_r_534 : b378 ≠ r_534 := Nat.ne_of_lt (Nat.lt_of_lt_of_le V_b378.lt szq_r_534)
                replace E_b374 := E_b374.keep Kq534
                replace F_b374_highestSequence := F_b374_highestSequence.keep Kq534 (by exact nin0)
                replace F_b374_messages := F_b374_messages.keep Kq534 (by exact nin0)
                replace F_b374_delivered := F_b374_delivered.keep Kq534 (by exact nin0)
                replace F_b374_late := F_b374_late.keep Kq534 (by exact nin0)
                replace F_b374_outOfOrder := F_b374_outOfOrder.keep Kq534 (by exact nin0)
                replace F_b374_duplicated := F_b374_duplicated.keep Kq534 (by exact nin0)
                replace F_b374_lastDeliveryNanos := F_b374_lastDeliveryNanos.keep Kq534 (by exact nin0)
                replace F_b374_seen := F_b374_seen.keep Kq534 (by exact nin0)
                replace F_b374_latenciesMicros := F_b374_latenciesMicros.keep Kq534 (by exact nin0)
                replace V_ts_376 := V_ts_376.keep Kq534 (by exact nin0)
                replace V_tl_376 := V_tl_376.keep Kq534 (by exact nin0)
                replace V_b378 := V_b378.keep Kq534 (by exact nin0)
                replace Z0 := Nat.le_trans Z0 Kq534.1
                clear Kq534
                have V_r_534 := nA534_r_534
                clear nA534_r_534
                show WP p.tables e below _ T534 (mkF m 265 #[.val (.long q1), .second, .val (.long q2), .second, .val (.long q3), .second, .val (.int p4), .val (.int p5), .val (.int p6), .val (.int (3 : Int32)), .val (.int s0), .val (.int s1), .val (.int s2), .val (.int la), .val (.int lb), .val (.int lc), .val (.ref b374), .val (.ref b378), .val (.int (3 : Int32)), .val (.int (1 : Int32)), .val (.int (1 : Int32))] [(.ref r_534)])
                have bk535 : ∀ t, Steps p.tables e below (T534.setTop (mkF m 269 #[.val (.long q1), .second, .val (.long q2), .second, .val (.long q3), .second, .val (.int p4), .val (.int p5), .val (.int p6), .val (.int (3 : Int32)), .val (.int s0), .val (.int s1), .val (.int s2), .val (.int la), .val (.int lb), .val (.int lc), .val (.ref b374), .val (.ref b378), .val (.int (3 : Int32)), .val (.ref r_534), .val (.int (1 : Int32))] [(.ref r_534)])) t → Steps p.tables e below (T534.setTop (mkF m 265 #[.val (.long q1), .second, .val (.long q2), .second, .val (.long q3), .second, .val (.int p4), .val (.int p5), .val (.int p6), .val (.int (3 : Int32)), .val (.int s0), .val (.int s1), .val (.int s2), .val (.int la), .val (.int lb), .val (.int lc), .val (.ref b374), .val (.ref b378), .val (.int (3 : Int32)), .val (.int (1 : Int32)), .val (.int (1 : Int32))] [(.ref r_534)])) t := fun t k => by
                  refine XS.astore X534.here hx rfl (hb hby at_265) rfl rfl (l' := #[.val (.long q1), .second, .val (.long q2), .second, .val (.long q3), .second, .val (.int p4), .val (.int p5), .val (.int p6), .val (.int (3 : Int32)), .val (.int s0), .val (.int s1), .val (.int s2), .val (.int la), .val (.int lb), .val (.int lc), .val (.ref b374), .val (.ref b378), .val (.int (3 : Int32)), .val (.ref r_534), .val (.int (1 : Int32))]) rfl ?_
                  refine XS.aload X534.here hx rfl (hb hby at_267) rfl rfl ?_
                  exact k
                refine WP.st bk535 ?_
                clear bk535
                obtain ⟨cl536, Ar536, len536⟩ := V_r_534.len
                have bk537 : ∀ t, Steps p.tables e below (T534.setTop (mkF m 286 #[.val (.long q1), .second, .val (.long q2), .second, .val (.long q3), .second, .val (.int p4), .val (.int p5), .val (.int p6), .val (.int (3 : Int32)), .val (.int s0), .val (.int s1), .val (.int s2), .val (.int la), .val (.int lb), .val (.int lc), .val (.ref b374), .val (.ref b378), .val (.int (3 : Int32)), .val (.ref r_534), .val (.int (1 : Int32))] [(.int (0 : Int32)), (.ref r_534)])) t → Steps p.tables e below (T534.setTop (mkF m 269 #[.val (.long q1), .second, .val (.long q2), .second, .val (.long q3), .second, .val (.int p4), .val (.int p5), .val (.int p6), .val (.int (3 : Int32)), .val (.int s0), .val (.int s1), .val (.int s2), .val (.int la), .val (.int lb), .val (.int lc), .val (.ref b374), .val (.ref b378), .val (.int (3 : Int32)), .val (.ref r_534), .val (.int (1 : Int32))] [(.ref r_534)])) t := fun t k => by
                  refine X534.arraylength hx (by rw [e534]; exact Ar536.1) (State.isArrayOf_alike hZ.alike Ar536.2.1) (g := (mkF m 269 #[.val (.long q1), .second, .val (.long q2), .second, .val (.long q3), .second, .val (.int p4), .val (.int p5), .val (.int p6), .val (.int (3 : Int32)), .val (.int s0), .val (.int s1), .val (.int s2), .val (.int la), .val (.int lb), .val (.int lc), .val (.ref b374), .val (.ref b378), .val (.int (3 : Int32)), .val (.ref r_534), .val (.int (1 : Int32))] [(.ref r_534)])) rfl rfl (hb hby at_269) _ ?_
                  rw [len536]
                  refine XS.iload X534.here hx rfl (hb hby at_270) rfl ?_
                  refine XS.icmpYes X534.here hx rfl (pc0 := 272) (pc' := 277) rfl (hb hby at_272) rfl (teq (by decide : (3 : Int32) = (3 : Int32))).1 (by decide) (by decide) ?_
                  refine XS.iload X534.here hx rfl (hb hby at_277) rfl ?_
                  show Steps p.tables e below (T534.setTop (mkF m 279 #[.val (.long q1), .second, .val (.long q2), .second, .val (.long q3), .second, .val (.int p4), .val (.int p5), .val (.int p6), .val (.int (3 : Int32)), .val (.int s0), .val (.int s1), .val (.int s2), .val (.int la), .val (.int lb), .val (.int lc), .val (.ref b374), .val (.ref b378), .val (.int (3 : Int32)), .val (.ref r_534), .val (.int (1 : Int32))] [(.int (3 : Int32))])) t
                  refine XS.iconst X534.here hx rfl (hb hby at_279) ?_
                  refine XS.icmpNo X534.here hx rfl (hb hby at_280) rfl (flt (by decide : ¬ ((3 : Int32) < (1 : Int32)))).1 ?_
                  refine XS.aload X534.here hx rfl (hb hby at_283) rfl rfl ?_
                  refine XS.iconst X534.here hx rfl (hb hby at_285) ?_
                  exact k
                refine WP.st bk537 ?_
                clear bk537
                obtain ⟨cl538, Ar538, hin538, hat538, -⟩ := V_r_534.rd (j := (0 : Int32)) ⟨by decide, by decide⟩
                replace hat538 : cl538.slots[((0 : Int32)).toNatClampNeg]? = some (.int (own_lat q1)) := hat538
                have bk539 : ∀ t, Steps p.tables e below (T534.setTop (mkF m 290 #[.val (.long q1), .second, .val (.long q2), .second, .val (.long q3), .second, .val (.int p4), .val (.int p5), .val (.int p6), .val (.int (3 : Int32)), .val (.int s0), .val (.int s1), .val (.int s2), .val (.int la), .val (.int lb), .val (.int lc), .val (.ref b374), .val (.ref b378), .val (.int (3 : Int32)), .val (.ref r_534), .val (.int (1 : Int32))] [(.int (0 : Int32)), (.ref b378), (.int (own_lat q1))])) t → Steps p.tables e below (T534.setTop (mkF m 286 #[.val (.long q1), .second, .val (.long q2), .second, .val (.long q3), .second, .val (.int p4), .val (.int p5), .val (.int p6), .val (.int (3 : Int32)), .val (.int s0), .val (.int s1), .val (.int s2), .val (.int la), .val (.int lb), .val (.int lc), .val (.ref b374), .val (.ref b378), .val (.int (3 : Int32)), .val (.ref r_534), .val (.int (1 : Int32))] [(.int (0 : Int32)), (.ref r_534)])) t := fun t k => by
                  refine X534.iaload hx (j := (0 : Int32)) (v := (.int (own_lat q1))) (by rw [e534]; exact Ar538.1) (State.isArrayOf_alike hZ.alike Ar538.2.1) Ar538.2.2 hin538 hat538 (g := (mkF m 286 #[.val (.long q1), .second, .val (.long q2), .second, .val (.long q3), .second, .val (.int p4), .val (.int p5), .val (.int p6), .val (.int (3 : Int32)), .val (.int s0), .val (.int s1), .val (.int s2), .val (.int la), .val (.int lb), .val (.int lc), .val (.ref b374), .val (.ref b378), .val (.int (3 : Int32)), .val (.ref r_534), .val (.int (1 : Int32))] [(.int (0 : Int32)), (.ref r_534)])) rfl rfl (hb hby at_286) _ ?_
                  refine XS.aload X534.here hx rfl (hb hby at_287) rfl rfl ?_
                  refine XS.iconst X534.here hx rfl (hb hby at_289) ?_
                  exact k
                refine WP.st bk539 ?_
                clear bk539
                obtain ⟨cl540, Ar540, hin540, hat540, -⟩ := V_b378.rd (j := (0 : Int32)) ⟨by decide, by decide⟩
                replace hat540 : cl540.slots[((0 : Int32)).toNatClampNeg]? = some (.int (own_mic q1)) := hat540
                have bk541 : ∀ t, Steps p.tables e below (T534.setTop (mkF m 305 #[.val (.long q1), .second, .val (.long q2), .second, .val (.long q3), .second, .val (.int p4), .val (.int p5), .val (.int p6), .val (.int (3 : Int32)), .val (.int s0), .val (.int s1), .val (.int s2), .val (.int la), .val (.int lb), .val (.int lc), .val (.ref b374), .val (.ref b378), .val (.int (3 : Int32)), .val (.ref r_534), .val (.int (1 : Int32))] [(.int (1 : Int32)), (.ref r_534)])) t → Steps p.tables e below (T534.setTop (mkF m 290 #[.val (.long q1), .second, .val (.long q2), .second, .val (.long q3), .second, .val (.int p4), .val (.int p5), .val (.int p6), .val (.int (3 : Int32)), .val (.int s0), .val (.int s1), .val (.int s2), .val (.int la), .val (.int lb), .val (.int lc), .val (.ref b374), .val (.ref b378), .val (.int (3 : Int32)), .val (.ref r_534), .val (.int (1 : Int32))] [(.int (0 : Int32)), (.ref b378), (.int (own_lat q1))])) t := fun t k => by
                  refine X534.iaload hx (j := (0 : Int32)) (v := (.int (own_mic q1))) (by rw [e534]; exact Ar540.1) (State.isArrayOf_alike hZ.alike Ar540.2.1) Ar540.2.2 hin540 hat540 (g := (mkF m 290 #[.val (.long q1), .second, .val (.long q2), .second, .val (.long q3), .second, .val (.int p4), .val (.int p5), .val (.int p6), .val (.int (3 : Int32)), .val (.int s0), .val (.int s1), .val (.int s2), .val (.int la), .val (.int lb), .val (.int lc), .val (.ref b374), .val (.ref b378), .val (.int (3 : Int32)), .val (.ref r_534), .val (.int (1 : Int32))] [(.int (0 : Int32)), (.ref b378), (.int (own_lat q1))])) rfl rfl (hb hby at_290) _ ?_
                  refine XS.icmpYes X534.here hx rfl (pc0 := 291) (pc' := 296) rfl (hb hby at_291) rfl (teq (own_lm q1)).1 (by decide) (by decide) ?_
                  refine XS.iload X534.here hx rfl (hb hby at_296) rfl ?_
                  refine XS.iconst X534.here hx rfl (hb hby at_298) ?_
                  show Steps p.tables e below (T534.setTop (mkF m 299 #[.val (.long q1), .second, .val (.long q2), .second, .val (.long q3), .second, .val (.int p4), .val (.int p5), .val (.int p6), .val (.int (3 : Int32)), .val (.int s0), .val (.int s1), .val (.int s2), .val (.int la), .val (.int lb), .val (.int lc), .val (.ref b374), .val (.ref b378), .val (.int (3 : Int32)), .val (.ref r_534), .val (.int (1 : Int32))] [(.int (2 : Int32)), (.int (3 : Int32))])) t
                  refine XS.icmpNo X534.here hx rfl (hb hby at_299) rfl (flt (by decide : ¬ ((3 : Int32) < (2 : Int32)))).1 ?_
                  refine XS.aload X534.here hx rfl (hb hby at_302) rfl rfl ?_
                  refine XS.iconst X534.here hx rfl (hb hby at_304) ?_
                  exact k
                refine WP.st bk541 ?_
                clear bk541
                obtain ⟨cl542, Ar542, hin542, hat542, -⟩ := V_r_534.rd (j := (1 : Int32)) ⟨by decide, by decide⟩
                replace hat542 : cl542.slots[((1 : Int32)).toNatClampNeg]? = some (.int (own_lat q2)) := hat542
                have bk543 : ∀ t, Steps p.tables e below (T534.setTop (mkF m 309 #[.val (.long q1), .second, .val (.long q2), .second, .val (.long q3), .second, .val (.int p4), .val (.int p5), .val (.int p6), .val (.int (3 : Int32)), .val (.int s0), .val (.int s1), .val (.int s2), .val (.int la), .val (.int lb), .val (.int lc), .val (.ref b374), .val (.ref b378), .val (.int (3 : Int32)), .val (.ref r_534), .val (.int (1 : Int32))] [(.int (1 : Int32)), (.ref b378), (.int (own_lat q2))])) t → Steps p.tables e below (T534.setTop (mkF m 305 #[.val (.long q1), .second, .val (.long q2), .second, .val (.long q3), .second, .val (.int p4), .val (.int p5), .val (.int p6), .val (.int (3 : Int32)), .val (.int s0), .val (.int s1), .val (.int s2), .val (.int la), .val (.int lb), .val (.int lc), .val (.ref b374), .val (.ref b378), .val (.int (3 : Int32)), .val (.ref r_534), .val (.int (1 : Int32))] [(.int (1 : Int32)), (.ref r_534)])) t := fun t k => by
                  refine X534.iaload hx (j := (1 : Int32)) (v := (.int (own_lat q2))) (by rw [e534]; exact Ar542.1) (State.isArrayOf_alike hZ.alike Ar542.2.1) Ar542.2.2 hin542 hat542 (g := (mkF m 305 #[.val (.long q1), .second, .val (.long q2), .second, .val (.long q3), .second, .val (.int p4), .val (.int p5), .val (.int p6), .val (.int (3 : Int32)), .val (.int s0), .val (.int s1), .val (.int s2), .val (.int la), .val (.int lb), .val (.int lc), .val (.ref b374), .val (.ref b378), .val (.int (3 : Int32)), .val (.ref r_534), .val (.int (1 : Int32))] [(.int (1 : Int32)), (.ref r_534)])) rfl rfl (hb hby at_305) _ ?_
                  refine XS.aload X534.here hx rfl (hb hby at_306) rfl rfl ?_
                  refine XS.iconst X534.here hx rfl (hb hby at_308) ?_
                  exact k
                refine WP.st bk543 ?_
                clear bk543
                obtain ⟨cl544, Ar544, hin544, hat544, -⟩ := V_b378.rd (j := (1 : Int32)) ⟨by decide, by decide⟩
                replace hat544 : cl544.slots[((1 : Int32)).toNatClampNeg]? = some (.int (own_mic q2)) := hat544
                have bk545 : ∀ t, Steps p.tables e below (T534.setTop (mkF m 324 #[.val (.long q1), .second, .val (.long q2), .second, .val (.long q3), .second, .val (.int p4), .val (.int p5), .val (.int p6), .val (.int (3 : Int32)), .val (.int s0), .val (.int s1), .val (.int s2), .val (.int la), .val (.int lb), .val (.int lc), .val (.ref b374), .val (.ref b378), .val (.int (3 : Int32)), .val (.ref r_534), .val (.int (1 : Int32))] [(.int (2 : Int32)), (.ref r_534)])) t → Steps p.tables e below (T534.setTop (mkF m 309 #[.val (.long q1), .second, .val (.long q2), .second, .val (.long q3), .second, .val (.int p4), .val (.int p5), .val (.int p6), .val (.int (3 : Int32)), .val (.int s0), .val (.int s1), .val (.int s2), .val (.int la), .val (.int lb), .val (.int lc), .val (.ref b374), .val (.ref b378), .val (.int (3 : Int32)), .val (.ref r_534), .val (.int (1 : Int32))] [(.int (1 : Int32)), (.ref b378), (.int (own_lat q2))])) t := fun t k => by
                  refine X534.iaload hx (j := (1 : Int32)) (v := (.int (own_mic q2))) (by rw [e534]; exact Ar544.1) (State.isArrayOf_alike hZ.alike Ar544.2.1) Ar544.2.2 hin544 hat544 (g := (mkF m 309 #[.val (.long q1), .second, .val (.long q2), .second, .val (.long q3), .second, .val (.int p4), .val (.int p5), .val (.int p6), .val (.int (3 : Int32)), .val (.int s0), .val (.int s1), .val (.int s2), .val (.int la), .val (.int lb), .val (.int lc), .val (.ref b374), .val (.ref b378), .val (.int (3 : Int32)), .val (.ref r_534), .val (.int (1 : Int32))] [(.int (1 : Int32)), (.ref b378), (.int (own_lat q2))])) rfl rfl (hb hby at_309) _ ?_
                  refine XS.icmpYes X534.here hx rfl (pc0 := 310) (pc' := 315) rfl (hb hby at_310) rfl (teq (own_lm q2)).1 (by decide) (by decide) ?_
                  refine XS.iload X534.here hx rfl (hb hby at_315) rfl ?_
                  refine XS.iconst X534.here hx rfl (hb hby at_317) ?_
                  show Steps p.tables e below (T534.setTop (mkF m 318 #[.val (.long q1), .second, .val (.long q2), .second, .val (.long q3), .second, .val (.int p4), .val (.int p5), .val (.int p6), .val (.int (3 : Int32)), .val (.int s0), .val (.int s1), .val (.int s2), .val (.int la), .val (.int lb), .val (.int lc), .val (.ref b374), .val (.ref b378), .val (.int (3 : Int32)), .val (.ref r_534), .val (.int (1 : Int32))] [(.int (3 : Int32)), (.int (3 : Int32))])) t
                  refine XS.icmpNo X534.here hx rfl (hb hby at_318) rfl (flt (by decide : ¬ ((3 : Int32) < (3 : Int32)))).1 ?_
                  refine XS.aload X534.here hx rfl (hb hby at_321) rfl rfl ?_
                  refine XS.iconst X534.here hx rfl (hb hby at_323) ?_
                  exact k
                refine WP.st bk545 ?_
                clear bk545
                obtain ⟨cl546, Ar546, hin546, hat546, -⟩ := V_r_534.rd (j := (2 : Int32)) ⟨by decide, by decide⟩
                replace hat546 : cl546.slots[((2 : Int32)).toNatClampNeg]? = some (.int (own_lat q3)) := hat546
                have bk547 : ∀ t, Steps p.tables e below (T534.setTop (mkF m 328 #[.val (.long q1), .second, .val (.long q2), .second, .val (.long q3), .second, .val (.int p4), .val (.int p5), .val (.int p6), .val (.int (3 : Int32)), .val (.int s0), .val (.int s1), .val (.int s2), .val (.int la), .val (.int lb), .val (.int lc), .val (.ref b374), .val (.ref b378), .val (.int (3 : Int32)), .val (.ref r_534), .val (.int (1 : Int32))] [(.int (2 : Int32)), (.ref b378), (.int (own_lat q3))])) t → Steps p.tables e below (T534.setTop (mkF m 324 #[.val (.long q1), .second, .val (.long q2), .second, .val (.long q3), .second, .val (.int p4), .val (.int p5), .val (.int p6), .val (.int (3 : Int32)), .val (.int s0), .val (.int s1), .val (.int s2), .val (.int la), .val (.int lb), .val (.int lc), .val (.ref b374), .val (.ref b378), .val (.int (3 : Int32)), .val (.ref r_534), .val (.int (1 : Int32))] [(.int (2 : Int32)), (.ref r_534)])) t := fun t k => by
                  refine X534.iaload hx (j := (2 : Int32)) (v := (.int (own_lat q3))) (by rw [e534]; exact Ar546.1) (State.isArrayOf_alike hZ.alike Ar546.2.1) Ar546.2.2 hin546 hat546 (g := (mkF m 324 #[.val (.long q1), .second, .val (.long q2), .second, .val (.long q3), .second, .val (.int p4), .val (.int p5), .val (.int p6), .val (.int (3 : Int32)), .val (.int s0), .val (.int s1), .val (.int s2), .val (.int la), .val (.int lb), .val (.int lc), .val (.ref b374), .val (.ref b378), .val (.int (3 : Int32)), .val (.ref r_534), .val (.int (1 : Int32))] [(.int (2 : Int32)), (.ref r_534)])) rfl rfl (hb hby at_324) _ ?_
                  refine XS.aload X534.here hx rfl (hb hby at_325) rfl rfl ?_
                  refine XS.iconst X534.here hx rfl (hb hby at_327) ?_
                  exact k
                refine WP.st bk547 ?_
                clear bk547
                obtain ⟨cl548, Ar548, hin548, hat548, -⟩ := V_b378.rd (j := (2 : Int32)) ⟨by decide, by decide⟩
                replace hat548 : cl548.slots[((2 : Int32)).toNatClampNeg]? = some (.int (own_mic q3)) := hat548
                have bk549 : ∀ t, Steps p.tables e below (T534.setTop (mkF m 335 #[.val (.long q1), .second, .val (.long q2), .second, .val (.long q3), .second, .val (.int p4), .val (.int p5), .val (.int p6), .val (.int (3 : Int32)), .val (.int s0), .val (.int s1), .val (.int s2), .val (.int la), .val (.int lb), .val (.int lc), .val (.ref b374), .val (.ref b378), .val (.int (3 : Int32)), .val (.ref r_534), .val (.int (1 : Int32))] [(.int (1 : Int32))])) t → Steps p.tables e below (T534.setTop (mkF m 328 #[.val (.long q1), .second, .val (.long q2), .second, .val (.long q3), .second, .val (.int p4), .val (.int p5), .val (.int p6), .val (.int (3 : Int32)), .val (.int s0), .val (.int s1), .val (.int s2), .val (.int la), .val (.int lb), .val (.int lc), .val (.ref b374), .val (.ref b378), .val (.int (3 : Int32)), .val (.ref r_534), .val (.int (1 : Int32))] [(.int (2 : Int32)), (.ref b378), (.int (own_lat q3))])) t := fun t k => by
                  refine X534.iaload hx (j := (2 : Int32)) (v := (.int (own_mic q3))) (by rw [e534]; exact Ar548.1) (State.isArrayOf_alike hZ.alike Ar548.2.1) Ar548.2.2 hin548 hat548 (g := (mkF m 328 #[.val (.long q1), .second, .val (.long q2), .second, .val (.long q3), .second, .val (.int p4), .val (.int p5), .val (.int p6), .val (.int (3 : Int32)), .val (.int s0), .val (.int s1), .val (.int s2), .val (.int la), .val (.int lb), .val (.int lc), .val (.ref b374), .val (.ref b378), .val (.int (3 : Int32)), .val (.ref r_534), .val (.int (1 : Int32))] [(.int (2 : Int32)), (.ref b378), (.int (own_lat q3))])) rfl rfl (hb hby at_328) _ ?_
                  refine XS.icmpYes X534.here hx rfl (pc0 := 329) (pc' := 334) rfl (hb hby at_329) rfl (teq (own_lm q3)).1 (by decide) (by decide) ?_
                  refine XS.iconst X534.here hx rfl (hb hby at_334) ?_
                  exact k
                refine WP.st bk549 ?_
                clear bk549
                subst hG
                obtain ⟨fs, hr, hrun, hended, hW, hsame⟩ := X534.leave (v := some (.int (1 : Int32))) (fun h => by rw [Bd.returns] at h; cases h)
                refine WP.fin ⟨_, _, ?_, hrun, hended, _, _, rfl, ?_, ⟨_, rfl⟩, hW, hsame.mono (by decide) (by decide)⟩
                · exact retN X534 hx (t := .boolean) Bd.returns (by simp) (hb hby at_335) hr
                · show Q0 Z q1 q2 q3 p4 p5 p6 h0 n0 _ T534.heap _
                  rw [e534]
                  exact ⟨rfl, NF⟩
      have bk551 : ∀ t, Steps p.tables e below (Tj370.setTop (mkF m 64 #[.val (.long q1), .second, .val (.long q2), .second, .val (.long q3), .second, .val (.int p4), .val (.int p5), .val (.int p6), .val (.int nn), .val (.int s0), .val (.int s1), .val (.int s2), .val (.int la), .val (.int lb), .unset, .unset, .unset, .unset, .unset, .unset] [(.int (p5 &&& (4 : Int32)))])) t → Steps p.tables e below (Tj370.setTop (mkF m 60 #[.val (.long q1), .second, .val (.long q2), .second, .val (.long q3), .second, .val (.int p4), .val (.int p5), .val (.int p6), .val (.int nn), .val (.int s0), .val (.int s1), .val (.int s2), .val (.int la), .val (.int lb), .unset, .unset, .unset, .unset, .unset, .unset] [])) t := fun t k => by
        refine XS.iload X370.here hx rfl (hb hby at_60) rfl ?_
        refine XS.iconst X370.here hx rfl (hb hby at_62) ?_
        refine XS.iand X370.here hx rfl (hb hby at_63) rfl ?_
        exact k
      refine WP.st bk551 ?_
      clear bk551
      by_cases hc550 : (p5 &&& (4 : Int32)) = (0 : Int32)
      · skip
        have bk552 : ∀ t, Steps p.tables e below (Tj370.setTop (mkF m 72 #[.val (.long q1), .second, .val (.long q2), .second, .val (.long q3), .second, .val (.int p4), .val (.int p5), .val (.int p6), .val (.int nn), .val (.int s0), .val (.int s1), .val (.int s2), .val (.int la), .val (.int lb), .unset, .unset, .unset, .unset, .unset, .unset] [(.int (0 : Int32))])) t → Steps p.tables e below (Tj370.setTop (mkF m 64 #[.val (.long q1), .second, .val (.long q2), .second, .val (.long q3), .second, .val (.int p4), .val (.int p5), .val (.int p6), .val (.int nn), .val (.int s0), .val (.int s1), .val (.int s2), .val (.int la), .val (.int lb), .unset, .unset, .unset, .unset, .unset, .unset] [(.int (p5 &&& (4 : Int32)))])) t := fun t k => by
          refine XS.ifYes X370.here hx rfl (pc0 := 64) (pc' := 71) rfl (hb hby at_64) rfl ((if0 _ _).trans (teq hc550).1) (by decide) (by decide) ?_
          refine XS.iconst X370.here hx rfl (hb hby at_71) ?_
          exact k
        refine WP.st bk552 ?_
        clear bk552
        exact J372 _ _  (0 : Int32) (ownWider X370 (by decide) (by decide)) ej370 NF  (by decide)
      · skip
        have bk553 : ∀ t, Steps p.tables e below (Tj370.setTop (mkF m 72 #[.val (.long q1), .second, .val (.long q2), .second, .val (.long q3), .second, .val (.int p4), .val (.int p5), .val (.int p6), .val (.int nn), .val (.int s0), .val (.int s1), .val (.int s2), .val (.int la), .val (.int lb), .unset, .unset, .unset, .unset, .unset, .unset] [(.int (1 : Int32))])) t → Steps p.tables e below (Tj370.setTop (mkF m 64 #[.val (.long q1), .second, .val (.long q2), .second, .val (.long q3), .second, .val (.int p4), .val (.int p5), .val (.int p6), .val (.int nn), .val (.int s0), .val (.int s1), .val (.int s2), .val (.int la), .val (.int lb), .unset, .unset, .unset, .unset, .unset, .unset] [(.int (p5 &&& (4 : Int32)))])) t := fun t k => by
          refine XS.ifNo X370.here hx rfl (hb hby at_64) rfl ((if0 _ _).trans (feq hc550).1) ?_
          refine XS.iconst X370.here hx rfl (hb hby at_67) ?_
          refine XS.goto X370.here hx rfl (pc0 := 68) (pc' := 72) rfl (hb hby at_68) (by decide) (by decide) ?_
          exact k
        refine WP.st bk553 ?_
        clear bk553
        exact J372 _ _  (1 : Int32) (ownWider X370 (by decide) (by decide)) ej370 NF  (by decide)
    have bk555 : ∀ t, Steps p.tables e below (Tj368.setTop (mkF m 50 #[.val (.long q1), .second, .val (.long q2), .second, .val (.long q3), .second, .val (.int p4), .val (.int p5), .val (.int p6), .val (.int nn), .val (.int s0), .val (.int s1), .val (.int s2), .val (.int la), .unset, .unset, .unset, .unset, .unset, .unset, .unset] [(.int (p5 &&& (2 : Int32)))])) t → Steps p.tables e below (Tj368.setTop (mkF m 46 #[.val (.long q1), .second, .val (.long q2), .second, .val (.long q3), .second, .val (.int p4), .val (.int p5), .val (.int p6), .val (.int nn), .val (.int s0), .val (.int s1), .val (.int s2), .val (.int la), .unset, .unset, .unset, .unset, .unset, .unset, .unset] [])) t := fun t k => by
      refine XS.iload X368.here hx rfl (hb hby at_46) rfl ?_
      refine XS.iconst X368.here hx rfl (hb hby at_48) ?_
      refine XS.iand X368.here hx rfl (hb hby at_49) rfl ?_
      exact k
    refine WP.st bk555 ?_
    clear bk555
    by_cases hc554 : (p5 &&& (2 : Int32)) = (0 : Int32)
    · skip
      have bk556 : ∀ t, Steps p.tables e below (Tj368.setTop (mkF m 58 #[.val (.long q1), .second, .val (.long q2), .second, .val (.long q3), .second, .val (.int p4), .val (.int p5), .val (.int p6), .val (.int nn), .val (.int s0), .val (.int s1), .val (.int s2), .val (.int la), .unset, .unset, .unset, .unset, .unset, .unset, .unset] [(.int (0 : Int32))])) t → Steps p.tables e below (Tj368.setTop (mkF m 50 #[.val (.long q1), .second, .val (.long q2), .second, .val (.long q3), .second, .val (.int p4), .val (.int p5), .val (.int p6), .val (.int nn), .val (.int s0), .val (.int s1), .val (.int s2), .val (.int la), .unset, .unset, .unset, .unset, .unset, .unset, .unset] [(.int (p5 &&& (2 : Int32)))])) t := fun t k => by
        refine XS.ifYes X368.here hx rfl (pc0 := 50) (pc' := 57) rfl (hb hby at_50) rfl ((if0 _ _).trans (teq hc554).1) (by decide) (by decide) ?_
        refine XS.iconst X368.here hx rfl (hb hby at_57) ?_
        exact k
      refine WP.st bk556 ?_
      clear bk556
      exact J370 _ _  (0 : Int32) (ownWider X368 (by decide) (by decide)) ej368 NF  (by decide)
    · skip
      have bk557 : ∀ t, Steps p.tables e below (Tj368.setTop (mkF m 58 #[.val (.long q1), .second, .val (.long q2), .second, .val (.long q3), .second, .val (.int p4), .val (.int p5), .val (.int p6), .val (.int nn), .val (.int s0), .val (.int s1), .val (.int s2), .val (.int la), .unset, .unset, .unset, .unset, .unset, .unset, .unset] [(.int (1 : Int32))])) t → Steps p.tables e below (Tj368.setTop (mkF m 50 #[.val (.long q1), .second, .val (.long q2), .second, .val (.long q3), .second, .val (.int p4), .val (.int p5), .val (.int p6), .val (.int nn), .val (.int s0), .val (.int s1), .val (.int s2), .val (.int la), .unset, .unset, .unset, .unset, .unset, .unset, .unset] [(.int (p5 &&& (2 : Int32)))])) t := fun t k => by
        refine XS.ifNo X368.here hx rfl (hb hby at_50) rfl ((if0 _ _).trans (feq hc554).1) ?_
        refine XS.iconst X368.here hx rfl (hb hby at_53) ?_
        refine XS.goto X368.here hx rfl (pc0 := 54) (pc' := 58) rfl (hb hby at_54) (by decide) (by decide) ?_
        exact k
      refine WP.st bk557 ?_
      clear bk557
      exact J370 _ _  (1 : Int32) (ownWider X368 (by decide) (by decide)) ej368 NF  (by decide)
  have bk559 : ∀ t, Steps p.tables e below (s₁.setTop (mkF m 36 #[.val (.long q1), .second, .val (.long q2), .second, .val (.long q3), .second, .val (.int p4), .val (.int p5), .val (.int p6), .val (.int nn), .val (.int s0), .val (.int s1), .val (.int s2), .unset, .unset, .unset, .unset, .unset, .unset, .unset, .unset] [(.int (p5 &&& (1 : Int32)))])) t → Steps p.tables e below (s₁.setTop (mkF m 32 #[.val (.long q1), .second, .val (.long q2), .second, .val (.long q3), .second, .val (.int p4), .val (.int p5), .val (.int p6), .val (.int nn), .val (.int s0), .val (.int s1), .val (.int s2), .unset, .unset, .unset, .unset, .unset, .unset, .unset, .unset] [])) t := fun t k => by
    refine XS.iload X0.here hx rfl (hb hby at_32) rfl ?_
    refine XS.iconst X0.here hx rfl (hb hby at_34) ?_
    refine XS.iand X0.here hx rfl (hb hby at_35) rfl ?_
    exact k
  refine WP.st bk559 ?_
  clear bk559
  by_cases hc558 : (p5 &&& (1 : Int32)) = (0 : Int32)
  · skip
    have bk560 : ∀ t, Steps p.tables e below (s₁.setTop (mkF m 44 #[.val (.long q1), .second, .val (.long q2), .second, .val (.long q3), .second, .val (.int p4), .val (.int p5), .val (.int p6), .val (.int nn), .val (.int s0), .val (.int s1), .val (.int s2), .unset, .unset, .unset, .unset, .unset, .unset, .unset, .unset] [(.int (0 : Int32))])) t → Steps p.tables e below (s₁.setTop (mkF m 36 #[.val (.long q1), .second, .val (.long q2), .second, .val (.long q3), .second, .val (.int p4), .val (.int p5), .val (.int p6), .val (.int nn), .val (.int s0), .val (.int s1), .val (.int s2), .unset, .unset, .unset, .unset, .unset, .unset, .unset, .unset] [(.int (p5 &&& (1 : Int32)))])) t := fun t k => by
      refine XS.ifYes X0.here hx rfl (pc0 := 36) (pc' := 43) rfl (hb hby at_36) rfl ((if0 _ _).trans (teq hc558).1) (by decide) (by decide) ?_
      refine XS.iconst X0.here hx rfl (hb hby at_43) ?_
      exact k
    refine WP.st bk560 ?_
    clear bk560
    exact J368 _ _  (0 : Int32) (ownWider X0 (by decide) (by decide)) e0 NF  (by decide)
  · skip
    have bk561 : ∀ t, Steps p.tables e below (s₁.setTop (mkF m 44 #[.val (.long q1), .second, .val (.long q2), .second, .val (.long q3), .second, .val (.int p4), .val (.int p5), .val (.int p6), .val (.int nn), .val (.int s0), .val (.int s1), .val (.int s2), .unset, .unset, .unset, .unset, .unset, .unset, .unset, .unset] [(.int (1 : Int32))])) t → Steps p.tables e below (s₁.setTop (mkF m 36 #[.val (.long q1), .second, .val (.long q2), .second, .val (.long q3), .second, .val (.int p4), .val (.int p5), .val (.int p6), .val (.int nn), .val (.int s0), .val (.int s1), .val (.int s2), .unset, .unset, .unset, .unset, .unset, .unset, .unset, .unset] [(.int (p5 &&& (1 : Int32)))])) t := fun t k => by
      refine XS.ifNo X0.here hx rfl (hb hby at_36) rfl ((if0 _ _).trans (feq hc558).1) ?_
      refine XS.iconst X0.here hx rfl (hb hby at_39) ?_
      refine XS.goto X0.here hx rfl (pc0 := 40) (pc' := 44) rfl (hb hby at_40) (by decide) (by decide) ?_
      exact k
    refine WP.st bk561 ?_
    clear bk561
    exact J368 _ _  (1 : Int32) (ownWider X0 (by decide) (by decide)) e0 NF  (by decide)
set_option maxRecDepth 65536 in
set_option maxHeartbeats 40000000 in
theorem comes_1 {Post : Tables → Env → Array Value → State → Outcome → State → Prop} (hpost : ∀ tb e args s v u, (limb_1_1.after args s (.returned v) u = true ∧ limb_1_2.after args s (.returned v) u = true ∧ True) → FrameEnd s (.returned v) u (Jvm.fieldLocs frame_1_writes args s ++ Jvm.arrayLocs frame_1_arrays args s ++ Jvm.staticLocs frame_1_statics s) 24 128 → Post tb e args s (.returned v) u) :
    ArmFor flags0 classFile x code maxLocals ret World_1 tables_1 room_1 Calls_1 rest_1 Pre_1 Post := by
  intro l hfl _ _ p e ha hc hk s m args below hf hA hF happ hP
  obtain ⟨hcalls, hrest, hpre⟩ := hP
  obtain ⟨-, -, -, hnamed, -, -, -, hat⟩ := (Spec.applies_iff hf).mp happ
  obtain ⟨hg, hn⟩ := and_e (Cond.before_iff.mp (show (Jvm.Cond.and given_1 narrow_1).before args s = true from hpre))
  obtain ⟨gg1, gg2⟩ := and_e hg
  obtain ⟨gg3, gg4⟩ := and_e gg2
  obtain ⟨gg5, gg6⟩ := and_e gg4
  obtain ⟨gg7, gg8⟩ := and_e gg6
  obtain ⟨gg9, gg10⟩ := and_e gg8
  obtain ⟨gg11, gg12⟩ := and_e gg10
  obtain ⟨w0, w1, w2, w3, w4, w5, rfl⟩ : ∃ w0 w1 w2 w3 w4 w5 : Value, args = #[w0, w1, w2, w3, w4, w5] := by
    have hs : args.size = 6 := by simpa [Cond.value, given_1] using gg1
    obtain ⟨L⟩ := args
    match L, hs with
    | [w0, w1, w2, w3, w4, w5], _ => exact ⟨w0, w1, w2, w3, w4, w5, rfl⟩
  have hw := fun d (hd : d ∈ tables_1) => atoms_spec (ws := Jvm.Cond.code x code maxLocals ret :: tables_1) hat d (List.mem_cons_of_mem _ hd)
  have hfit : Fit s := fun {y c} hc i hi => by
    obtain ⟨ha, rfl⟩ := Array.getElem?_eq_some_iff.mp hc
    have q := List.all_eq_true.mp ((Array.all_eq_true_iff_forall_mem.mp hF) _ (Array.getElem_mem ha)) i (List.mem_range.mpr hi)
    simpa [Array.getElem?_eq_getElem hi] using q
  obtain ⟨i0, ei0⟩ := isL_v gg3
  obtain rfl : w0 = (.long i0) := Option.some.inj ei0
  obtain ⟨i1, ei1⟩ := isL_v gg5
  obtain rfl : w1 = (.long i1) := Option.some.inj ei1
  obtain ⟨i2, ei2⟩ := isL_v gg7
  obtain rfl : w2 = (.long i2) := Option.some.inj ei2
  obtain ⟨i3, ei3⟩ := is_v gg9
  obtain rfl : w3 = (.int i3) := Option.some.inj ei3
  obtain ⟨i4, ei4⟩ := is_v gg11
  obtain rfl : w4 = (.int i4) := Option.some.inj ei4
  obtain ⟨i5, ei5⟩ := is_v gg12
  obtain rfl : w5 = (.int i5) := Option.some.inj ei5
  obtain ⟨n, o, h1, h2, h3, _, L, rfl, ⟨rfl, N⟩, hq⟩ := rm0 l s _ hw tables_1 i0 i1 i2 i3 i4 i5 s.heap s.heap.size (Nat.le_refl _)  p e ha hc hk s m _ below hf ((Spec.applies_iff_loose hf).mp happ).1 ⟨rfl, State.Warmed39.refl s, rfl⟩ trivial
  refine ⟨n, _, h1, h2, h3, hpost _ _ _ _ _ _ ⟨Cond.after_iff.mpr rfl, Cond.after_iff.mpr (eq_i res_at (Term.int_eval (1)) rfl), trivial⟩ ⟨hq.1, hq.2.1, (hq.2.2.sift fun y hy => Or.inr (N y hy)).mono (by decide) (by decide)⟩⟩
theorem main_1_1 : Claimed_1_1 := comes_1 fun _ _ _ _ _ _ h hF => ⟨h.1, hF⟩
theorem main_1_2 : Claimed_1_2 := comes_1 fun _ _ _ _ _ _ h hF => ⟨h.2.1, hF⟩
end Jvm.Pilot.@@N@@
namespace Jvm.Pilot.@@N@@
open Jvm Jvm.ClassFile Sem Op Lib Jvm.Free Jvm.Stand Jvm.Pilot.@@N@@.Jvm.D
/-! MADE BY PROGRAM (witnessworld.py) out of the Statement's table words and the real class files: 14 classes; the members and pool entries that the words name. The judged class is class 1, her method 2. -/
namespace start1
open Jvm.ClassFile
def u (s : String) : CpInfo := .utf8 (stringToUtf16 s)
/-- a pool by its gaps: so many unusable entries, then the entry; so many at the end -/
def gap : Nat → List CpInfo → List CpInfo
  | 0, r => r
  | n + 1, r => .unusable :: gap n r
def poolList (es : List (Nat × CpInfo)) (last : Nat) : List CpInfo := es.foldr (fun e r => gap e.1 (e.2 :: r)) (gap last [])
def pool (es : List (Nat × CpInfo)) (last : Nat) : Array CpInfo := ⟨poolList es last⟩
def fileOf (pool : Array CpInfo) (this : Nat) (attrs : Array Attribute := #[]) (ms : Array MethodInfo := #[]) (fl : Nat := 33) (sup : Nat := 0) (ifs : Array Nat := #[]) (fds : Array FieldInfo := #[]) : ClassFile where
  minorVersion := 0
  majorVersion := 65
  constantPool := pool
  accessFlags := fl
  thisClass := this
  superClass := sup
  interfaces := ifs
  fields := fds
  methods := ms
  attributes := attrs
def plain (name : String) (sup : Option ClassId) : Class where
  name := name
  kind := .ordinary
  loader := none
  accessFlags := 33
  super := sup
  interfaces := #[]
  cf := none
  fields := #[]
  methods := #[]
  instanceTypes := #[]
  staticTypes := #[]
  resolved := #[]
  callSites := []
  init := .initialized
  statics := none
  mirror := none

def pool0 : Array CpInfo := pool [(5, u "<init>"), (0, u "()V"), (1, .class_ 10), (1, u "java/lang/Object")] 113

def k0c0 : Code := { maxStack := 0, maxLocals := 1, code := object_method_1_code, exceptionTable := #[], attributes := #[] }
def k0m0 : Method := { name := "<init>", desc := "()V", sig := { parameters := [], returnType := none }, accessFlags := 1, code := some k0c0 }
/-- java/lang/Object -/
def k0 : Class := { plain "java/lang/Object" none with
  accessFlags := 33
  interfaces := #[]
  cf := some (fileOf pool0 8 #[] #[{ accessFlags := 1, nameIndex := 5, descriptorIndex := 6, attributes := #[] }] 33 0 #[] #[])
  fields := #[]
  methods := #[k0m0]
  instanceTypes := #[]
  staticTypes := #[]
  resolved := Array.replicate 124 none
  statics := none }

def pool1 : Array CpInfo := pool [(2, .class_ 4), (1, u "java/lang/Object"), (0, u "<init>"), (0, u "()V"), (0, .long 1000), (1, .long 2147483647), (1, .integer 2147483647), (0, .class_ 13), (0, u "com/example/otayori/otayori/bench/PairTally"), (0, .methodref 12 15), (0, .nameAndType 5 16), (0, u "(I)V"), (0, .methodref 12 18), (0, .nameAndType 19 20), (0, u "record"), (0, u "(IJJZ)Z"), (0, .methodref 22 23), (0, .class_ 24), (0, .nameAndType 25 26), (0, u "com/example/otayori/otayori/bench/PairTallyLatenciesPinLaw"), (0, u "micros"), (0, u "(J)I"), (0, .long 2), (1, .methodref 12 30), (0, .nameAndType 31 32), (0, u "latencies"), (0, u "()[I"), (3, u "law"), (0, u "(JJJIII)Z")] 4

def k1m0 : Method := { name := "<init>", desc := "()V", sig := { parameters := [], returnType := none }, accessFlags := 1, code := none }
def k1c1 : Code := { maxStack := 4, maxLocals := 4, code := method_2_code, exceptionTable := #[], attributes := #[] }
def k1m1 : Method := { name := "micros", desc := "(J)I", sig := { parameters := [.long], returnType := some .int }, accessFlags := 10, code := some k1c1 }
def k1c2 : Code := { maxStack := 7, maxLocals := 21, code := code, exceptionTable := #[], attributes := #[] }
def k1m2 : Method := { name := "law", desc := "(JJJIII)Z", sig := { parameters := [.long, .long, .long, .int, .int, .int], returnType := some .boolean }, accessFlags := 9, code := some k1c2 }
/-- com/example/otayori/otayori/bench/PairTallyLatenciesPinLaw -/
def k1 : Class := { plain "com/example/otayori/otayori/bench/PairTallyLatenciesPinLaw" (some 0) with
  accessFlags := 49
  interfaces := #[]
  cf := some (fileOf pool1 22 #[] #[{ accessFlags := 1, nameIndex := 5, descriptorIndex := 6, attributes := #[] }, { accessFlags := 10, nameIndex := 25, descriptorIndex := 26, attributes := #[] }, { accessFlags := 9, nameIndex := 36, descriptorIndex := 37, attributes := #[] }] 49 2 #[] #[])
  fields := #[]
  methods := #[k1m0, k1m1, k1m2]
  instanceTypes := #[]
  staticTypes := #[]
  resolved := Array.replicate 42 none
  statics := none }

def pool2 : Array CpInfo := pool [(1, .methodref 2 3), (0, .class_ 4), (0, .nameAndType 5 6), (0, u "java/lang/Object"), (0, u "<init>"), (0, u "()V"), (0, .fieldref 8 9), (0, .class_ 10), (0, .nameAndType 11 12), (0, u "com/example/otayori/otayori/bench/PairTally"), (0, u "highestSequence"), (0, u "I"), (0, .fieldref 8 14), (0, .nameAndType 15 16), (0, u "latenciesMicros"), (0, u "[I"), (0, .fieldref 8 18), (0, .nameAndType 19 12), (0, u "messages"), (2, .fieldref 8 23), (0, .nameAndType 24 25), (0, u "seen"), (0, u "[J"), (0, .fieldref 8 27), (0, .nameAndType 28 29), (0, u "outOfOrder"), (0, u "J"), (0, .fieldref 8 31), (0, .nameAndType 32 29), (0, u "delivered"), (0, .fieldref 8 34), (0, .nameAndType 35 29), (0, u "late"), (0, .methodref 37 38), (0, .class_ 39), (0, .nameAndType 40 41), (0, u "java/util/Arrays"), (0, u "copyOf"), (0, u "([II)[I"), (2, .long 2147483647), (1, .long 1000), (1, .methodref 49 50), (0, .class_ 51), (0, .nameAndType 52 53), (0, u "java/lang/Math"), (0, u "max"), (0, u "(JJ)J"), (0, .methodref 49 55), (0, .nameAndType 56 53), (0, u "min"), (0, .fieldref 8 58), (0, .nameAndType 59 29), (0, u "lastDeliveryNanos"), (0, .fieldref 8 61), (0, .nameAndType 62 29), (0, u "duplicated"), (0, u "NANOS_PER_MICRO"), (2, u "(I)V"), (2, u "record"), (0, u "(IJJZ)Z"), (3, u "latencies"), (0, u "()[I")] 2

def k2c0 : Code := { maxStack := 3, maxLocals := 2, code := prog_3_method_1_code, exceptionTable := #[], attributes := #[] }
def k2m0 : Method := { name := "<init>", desc := "(I)V", sig := { parameters := [.int], returnType := none }, accessFlags := 0, code := some k2c0 }
def k2c1 : Code := { maxStack := 10, maxLocals := 12, code := prog_3_method_2_code, exceptionTable := #[], attributes := #[] }
def k2m1 : Method := { name := "record", desc := "(IJJZ)Z", sig := { parameters := [.int, .long, .long, .boolean], returnType := some .boolean }, accessFlags := 0, code := some k2c1 }
def k2c2 : Code := { maxStack := 5, maxLocals := 1, code := prog_3_method_9_code, exceptionTable := #[], attributes := #[] }
def k2m2 : Method := { name := "latencies", desc := "()[I", sig := { parameters := [], returnType := some (.array .int) }, accessFlags := 0, code := some k2c2 }
/-- com/example/otayori/otayori/bench/PairTally -/
def k2 : Class := { plain "com/example/otayori/otayori/bench/PairTally" (some 0) with
  accessFlags := 48
  interfaces := #[]
  cf := some (fileOf pool2 8 #[] #[{ accessFlags := 0, nameIndex := 5, descriptorIndex := 66, attributes := #[] }, { accessFlags := 0, nameIndex := 69, descriptorIndex := 70, attributes := #[] }, { accessFlags := 0, nameIndex := 74, descriptorIndex := 75, attributes := #[] }] 48 2 #[] #[{ accessFlags := 26, nameIndex := 63, descriptorIndex := 12, attributes := #[] }, { accessFlags := 18, nameIndex := 19, descriptorIndex := 12, attributes := #[] }, { accessFlags := 18, nameIndex := 24, descriptorIndex := 25, attributes := #[] }, { accessFlags := 2, nameIndex := 11, descriptorIndex := 12, attributes := #[] }, { accessFlags := 66, nameIndex := 32, descriptorIndex := 29, attributes := #[] }, { accessFlags := 66, nameIndex := 35, descriptorIndex := 29, attributes := #[] }, { accessFlags := 66, nameIndex := 62, descriptorIndex := 29, attributes := #[] }, { accessFlags := 2, nameIndex := 28, descriptorIndex := 29, attributes := #[] }, { accessFlags := 2, nameIndex := 59, descriptorIndex := 29, attributes := #[] }, { accessFlags := 2, nameIndex := 15, descriptorIndex := 16, attributes := #[] }])
  fields := #[{ name := "NANOS_PER_MICRO", type := .int, accessFlags := 26, slot := 0, constantValue := 0 }, { name := "messages", type := .int, accessFlags := 18, slot := 0, constantValue := 0 }, { name := "seen", type := (.array .long), accessFlags := 18, slot := 1, constantValue := 0 }, { name := "highestSequence", type := .int, accessFlags := 2, slot := 2, constantValue := 0 }, { name := "delivered", type := .long, accessFlags := 66, slot := 3, constantValue := 0 }, { name := "late", type := .long, accessFlags := 66, slot := 4, constantValue := 0 }, { name := "duplicated", type := .long, accessFlags := 66, slot := 5, constantValue := 0 }, { name := "outOfOrder", type := .long, accessFlags := 2, slot := 6, constantValue := 0 }, { name := "lastDeliveryNanos", type := .long, accessFlags := 2, slot := 7, constantValue := 0 }, { name := "latenciesMicros", type := (.array .int), accessFlags := 2, slot := 8, constantValue := 0 }]
  methods := #[k2m0, k2m1, k2m2]
  instanceTypes := #[.int, (.array .long), .int, .long, .long, .long, .long, .long, (.array .int)]
  staticTypes := #[.int]
  resolved := Array.replicate 78 none
  statics := none }

def pool3 : Array CpInfo := pool [(1, .class_ 2), (0, u "java/lang/Math"), (1, .class_ 6), (1, u "java/lang/Object"), (0, u "<init>"), (0, u "()V"), (89, .class_ 100), (1, u "java/lang/Math$RandomNumberGeneratorHolder"), (20, u "(JJ)J"), (50, u "negativeZeroFloatBits"), (0, u "J"), (2, u "negativeZeroDoubleBits"), (21, u "max"), (2, u "min"), (43, u "$assertionsDisabled"), (0, u "Z"), (88, u "(II)I"), (2, u "twoToTheDoubleScaleDown"), (0, u "D"), (4, u "twoToTheDoubleScaleUp"), (9, u "E"), (3, u "PI"), (2, u "TAU"), (2, u "DEGREES_TO_RADIANS"), (0, u "RADIANS_TO_DEGREES")] 94

def k3m0 : Method := { name := "<init>", desc := "()V", sig := { parameters := [], returnType := none }, accessFlags := 2, code := none }
def k3c1 : Code := { maxStack := 4, maxLocals := 4, code := jdk_29_method_66_code, exceptionTable := #[], attributes := #[] }
def k3m1 : Method := { name := "max", desc := "(JJ)J", sig := { parameters := [.long, .long], returnType := some .long }, accessFlags := 9, code := some k3c1 }
def k3c2 : Code := { maxStack := 2, maxLocals := 2, code := jdk_29_method_69_code, exceptionTable := #[], attributes := #[] }
def k3m2 : Method := { name := "min", desc := "(II)I", sig := { parameters := [.int, .int], returnType := some .int }, accessFlags := 9, code := some k3c2 }
def k3c3 : Code := { maxStack := 4, maxLocals := 4, code := jdk_29_method_70_code, exceptionTable := #[], attributes := #[] }
def k3m3 : Method := { name := "min", desc := "(JJ)J", sig := { parameters := [.long, .long], returnType := some .long }, accessFlags := 9, code := some k3c3 }
/-- java/lang/Math -/
def k3 : Class := { plain "java/lang/Math" (some 0) with
  accessFlags := 49
  interfaces := #[]
  cf := some (fileOf pool3 1 #[.nestMembers #[98]] #[{ accessFlags := 2, nameIndex := 7, descriptorIndex := 8, attributes := #[] }, { accessFlags := 9, nameIndex := 198, descriptorIndex := 121, attributes := #[] }, { accessFlags := 9, nameIndex := 201, descriptorIndex := 335, attributes := #[] }, { accessFlags := 9, nameIndex := 201, descriptorIndex := 121, attributes := #[] }] 49 4 #[] #[{ accessFlags := 25, nameIndex := 354, descriptorIndex := 339, attributes := #[] }, { accessFlags := 25, nameIndex := 358, descriptorIndex := 339, attributes := #[] }, { accessFlags := 25, nameIndex := 361, descriptorIndex := 339, attributes := #[] }, { accessFlags := 26, nameIndex := 364, descriptorIndex := 339, attributes := #[] }, { accessFlags := 26, nameIndex := 365, descriptorIndex := 339, attributes := #[] }, { accessFlags := 26, nameIndex := 172, descriptorIndex := 173, attributes := #[] }, { accessFlags := 26, nameIndex := 176, descriptorIndex := 173, attributes := #[] }, { accessFlags := 8, nameIndex := 344, descriptorIndex := 339, attributes := #[] }, { accessFlags := 8, nameIndex := 338, descriptorIndex := 339, attributes := #[] }, { accessFlags := 4120, nameIndex := 245, descriptorIndex := 246, attributes := #[] }])
  fields := #[{ name := "E", type := .double, accessFlags := 25, slot := 0, constantValue := 0 }, { name := "PI", type := .double, accessFlags := 25, slot := 1, constantValue := 0 }, { name := "TAU", type := .double, accessFlags := 25, slot := 2, constantValue := 0 }, { name := "DEGREES_TO_RADIANS", type := .double, accessFlags := 26, slot := 3, constantValue := 0 }, { name := "RADIANS_TO_DEGREES", type := .double, accessFlags := 26, slot := 4, constantValue := 0 }, { name := "negativeZeroFloatBits", type := .long, accessFlags := 26, slot := 5, constantValue := 0 }, { name := "negativeZeroDoubleBits", type := .long, accessFlags := 26, slot := 6, constantValue := 0 }, { name := "twoToTheDoubleScaleUp", type := .double, accessFlags := 8, slot := 7, constantValue := 0 }, { name := "twoToTheDoubleScaleDown", type := .double, accessFlags := 8, slot := 8, constantValue := 0 }, { name := "$assertionsDisabled", type := .boolean, accessFlags := 4120, slot := 9, constantValue := 0 }]
  methods := #[k3m0, k3m1, k3m2, k3m3]
  instanceTypes := #[]
  staticTypes := #[.double, .double, .double, .double, .double, .long, .long, .double, .double, .boolean]
  resolved := Array.replicate 460 none
  statics := none }

def pool4 : Array CpInfo := pool [(2, .class_ 4), (1, u "java/lang/Object"), (0, u "<init>"), (0, u "()V"), (7, .class_ 16), (1, u "java/util/Arrays"), (57, .class_ 76), (1, u "java/util/Arrays$NaturalOrder"), (36, .class_ 115), (1, u "java/util/Arrays$LegacyMergeSort"), (1, u "Z"), (32, .methodref 151 152), (0, .class_ 153), (0, .nameAndType 154 155), (0, u "java/lang/System"), (0, u "arraycopy"), (0, u "(Ljava/lang/Object;ILjava/lang/Object;II)V"), (146, u "copyOf"), (1, .methodref 305 306), (0, .class_ 307), (0, .nameAndType 308 309), (0, u "java/lang/Math"), (0, u "min"), (0, u "(II)I"), (65, .class_ 376), (0, u "java/util/Arrays$ArrayList"), (68, u "$assertionsDisabled"), (269, u "MIN_ARRAY_SORT_GRAN"), (0, u "I"), (2, u "INSERTIONSORT_THRESHOLD"), (151, u "([II)[I"), (103, .class_ 976), (0, u "java/util/Arrays$ArrayItr")] 52

def k4m0 : Method := { name := "<init>", desc := "()V", sig := { parameters := [], returnType := none }, accessFlags := 2, code := none }
def k4c1 : Code := { maxStack := 6, maxLocals := 3, code := jdk_65_method_123_code, exceptionTable := #[], attributes := #[] }
def k4m1 : Method := { name := "copyOf", desc := "([II)[I", sig := { parameters := [(.array .int), .int], returnType := some (.array .int) }, accessFlags := 9, code := some k4c1 }
/-- java/util/Arrays -/
def k4 : Class := { plain "java/util/Arrays" (some 0) with
  accessFlags := 49
  interfaces := #[]
  cf := some (fileOf pool4 14 #[.nestMembers #[975, 375, 113, 74]] #[{ accessFlags := 2, nameIndex := 5, descriptorIndex := 6, attributes := #[] }, { accessFlags := 9, nameIndex := 302, descriptorIndex := 871, attributes := #[] }] 49 2 #[] #[{ accessFlags := 26, nameIndex := 715, descriptorIndex := 716, attributes := #[] }, { accessFlags := 26, nameIndex := 719, descriptorIndex := 716, attributes := #[] }, { accessFlags := 4120, nameIndex := 445, descriptorIndex := 117, attributes := #[] }])
  fields := #[{ name := "MIN_ARRAY_SORT_GRAN", type := .int, accessFlags := 26, slot := 0, constantValue := 0 }, { name := "INSERTIONSORT_THRESHOLD", type := .int, accessFlags := 26, slot := 1, constantValue := 0 }, { name := "$assertionsDisabled", type := .boolean, accessFlags := 4120, slot := 2, constantValue := 0 }]
  methods := #[k4m0, k4m1]
  instanceTypes := #[]
  staticTypes := #[.int, .int, .boolean]
  resolved := Array.replicate 1029 none
  statics := none }

def pool5 : Array CpInfo := pool [(2, .class_ 4), (1, u "java/lang/Object"), (0, u "<init>"), (0, u "()V"), (1, .class_ 10), (1, u "java/lang/System"), (0, u "allowSecurityManager"), (0, u "I"), (16, u "cons"), (0, u "Ljava/io/Console;"), (77, .class_ 110), (1, u "java/lang/System$CallersHolder"), (43, u "initialErrStream"), (0, u "Ljava/io/PrintStream;"), (19, u "security"), (0, u "Ljava/lang/SecurityManager;"), (31, .class_ 209), (0, u "java/lang/System$1"), (7, u "props"), (0, u "Ljava/util/Properties;"), (2, u "lineSeparator"), (0, u "Ljava/lang/String;"), (96, .class_ 321), (1, u "java/lang/System$LoggerFinder"), (5, .class_ 328), (0, u "java/lang/System$Logger"), (67, u "err"), (2, u "out"), (91, u "notSupportedJnuEncoding"), (15, u "in"), (17, u "initialIn"), (0, u "Ljava/io/InputStream;"), (35, u "bootLayer"), (0, u "Ljava/lang/ModuleLayer;"), (99, .class_ 664), (0, u "java/lang/System$2"), (9, u "NEVER"), (2, u "MAYBE"), (49, u "arraycopy"), (0, u "(Ljava/lang/Object;ILjava/lang/Object;II)V"), (72, .class_ 802), (0, u "java/lang/System$Logger$Level")] 31

def k5m0 : Method := { name := "<init>", desc := "()V", sig := { parameters := [], returnType := none }, accessFlags := 2, code := none }
def k5m1 : Method := { name := "arraycopy", desc := "(Ljava/lang/Object;ILjava/lang/Object;II)V", sig := { parameters := [(.object "java/lang/Object"), .int, (.object "java/lang/Object"), .int, .int], returnType := none }, accessFlags := 265, code := none }
/-- java/lang/System -/
def k5 : Class := { plain "java/lang/System" (some 0) with
  accessFlags := 49
  interfaces := #[]
  cf := some (fileOf pool5 8 #[.nestMembers #[319, 327, 801, 108, 663, 208]] #[{ accessFlags := 2, nameIndex := 5, descriptorIndex := 6, attributes := #[] }, { accessFlags := 265, nameIndex := 727, descriptorIndex := 728, attributes := #[] }] 49 2 #[] #[{ accessFlags := 25, nameIndex := 507, descriptorIndex := 526, attributes := #[] }, { accessFlags := 25, nameIndex := 399, descriptorIndex := 155, attributes := #[] }, { accessFlags := 25, nameIndex := 396, descriptorIndex := 155, attributes := #[] }, { accessFlags := 10, nameIndex := 525, descriptorIndex := 526, attributes := #[] }, { accessFlags := 26, nameIndex := 674, descriptorIndex := 12, attributes := #[] }, { accessFlags := 26, nameIndex := 677, descriptorIndex := 12, attributes := #[] }, { accessFlags := 10, nameIndex := 11, descriptorIndex := 12, attributes := #[] }, { accessFlags := 74, nameIndex := 175, descriptorIndex := 176, attributes := #[] }, { accessFlags := 10, nameIndex := 491, descriptorIndex := 222, attributes := #[] }, { accessFlags := 74, nameIndex := 29, descriptorIndex := 30, attributes := #[] }, { accessFlags := 74, nameIndex := 154, descriptorIndex := 155, attributes := #[] }, { accessFlags := 10, nameIndex := 217, descriptorIndex := 218, attributes := #[] }, { accessFlags := 10, nameIndex := 221, descriptorIndex := 222, attributes := #[] }, { accessFlags := 8, nameIndex := 562, descriptorIndex := 563, attributes := #[] }])
  fields := #[{ name := "in", type := (.object "java/io/InputStream"), accessFlags := 25, slot := 0, constantValue := 0 }, { name := "out", type := (.object "java/io/PrintStream"), accessFlags := 25, slot := 1, constantValue := 0 }, { name := "err", type := (.object "java/io/PrintStream"), accessFlags := 25, slot := 2, constantValue := 0 }, { name := "initialIn", type := (.object "java/io/InputStream"), accessFlags := 10, slot := 3, constantValue := 0 }, { name := "NEVER", type := .int, accessFlags := 26, slot := 4, constantValue := 0 }, { name := "MAYBE", type := .int, accessFlags := 26, slot := 5, constantValue := 0 }, { name := "allowSecurityManager", type := .int, accessFlags := 10, slot := 6, constantValue := 0 }, { name := "security", type := (.object "java/lang/SecurityManager"), accessFlags := 74, slot := 7, constantValue := 0 }, { name := "notSupportedJnuEncoding", type := (.object "java/lang/String"), accessFlags := 10, slot := 8, constantValue := 0 }, { name := "cons", type := (.object "java/io/Console"), accessFlags := 74, slot := 9, constantValue := 0 }, { name := "initialErrStream", type := (.object "java/io/PrintStream"), accessFlags := 74, slot := 10, constantValue := 0 }, { name := "props", type := (.object "java/util/Properties"), accessFlags := 10, slot := 11, constantValue := 0 }, { name := "lineSeparator", type := (.object "java/lang/String"), accessFlags := 10, slot := 12, constantValue := 0 }, { name := "bootLayer", type := (.object "java/lang/ModuleLayer"), accessFlags := 8, slot := 13, constantValue := 0 }]
  methods := #[k5m0, k5m1]
  instanceTypes := #[]
  staticTypes := #[(.object "java/io/InputStream"), (.object "java/io/PrintStream"), (.object "java/io/PrintStream"), (.object "java/io/InputStream"), .int, .int, .int, (.object "java/lang/SecurityManager"), (.object "java/lang/String"), (.object "java/io/Console"), (.object "java/io/PrintStream"), (.object "java/util/Properties"), (.object "java/lang/String"), (.object "java/lang/ModuleLayer")]
  resolved := Array.replicate 834 none
  statics := none }

def pool6 : Array CpInfo := pool [(1, u "java/lang/Cloneable"), (0, .class_ 1), (0, u "java/lang/Object"), (0, .class_ 3)] 3

/-- java/lang/Cloneable -/
def k6 : Class := { plain "java/lang/Cloneable" (some 0) with
  accessFlags := 1537
  interfaces := #[]
  cf := some (fileOf pool6 2 #[] #[] 1537 4 #[] #[])
  fields := #[]
  methods := #[]
  instanceTypes := #[]
  staticTypes := #[]
  resolved := Array.replicate 8 none
  statics := none }

def pool7 : Array CpInfo := pool [(1, u "java/io/Serializable"), (0, .class_ 1), (0, u "java/lang/Object"), (0, .class_ 3)] 3

/-- java/io/Serializable -/
def k7 : Class := { plain "java/io/Serializable" (some 0) with
  accessFlags := 1537
  interfaces := #[]
  cf := some (fileOf pool7 2 #[] #[] 1537 4 #[] #[])
  fields := #[]
  methods := #[]
  instanceTypes := #[]
  staticTypes := #[]
  resolved := Array.replicate 8 none
  statics := none }

/-- the primitive byte -/
def k8 : Class := { plain "byte" none with kind := .primitive 'B', accessFlags := 0x411 }
/-- [B -/
def k9 : Class := { plain "[B" (some 0) with kind := .array 8 .byte, interfaces := #[6, 7], accessFlags := 1041 }

/-- the primitive int -/
def k10 : Class := { plain "int" none with kind := .primitive 'I', accessFlags := 0x411 }
/-- [I -/
def k11 : Class := { plain "[I" (some 0) with kind := .array 10 .int, interfaces := #[6, 7], accessFlags := 1041 }

/-- the primitive long -/
def k12 : Class := { plain "long" none with kind := .primitive 'J', accessFlags := 0x411 }
/-- [J -/
def k13 : Class := { plain "[J" (some 0) with kind := .array 12 .long, interfaces := #[6, 7], accessFlags := 1041 }

def heap : Heap := #[]
def classes : Array Class := #[k0, k1, k2, k3, k4, k5, k6, k7, k8, k9, k10, k11, k12, k13]
def interned : List (Array UInt16 × Addr) := []
def slotsUsed : Nat := 0
def theMethod : MethodId := ⟨1, 2⟩
def args0 : Array Value := #[.long 5, .long 7, .long 9, .int 11, .int 3, .int 3]
def aboutOver (below : List Frame) : State where
  vm := { classes := classes, interned := interned.toArray }
  heap := heap
  slotsUsed := slotsUsed
  threads := #[{ frames := .invoking theMethod args0 :: below }]
def below0 : List Frame := [.native { method := ⟨0, 0⟩, args := #[] }]
def about1 : State := aboutOver below0
def p0 : Program := .bare "" "" ""
def e0 : Env := launch0.env 0 0 0
theorem w_frames : about1.frames = Frame.invoking theMethod args0 :: below0 := rfl
set_option maxRecDepth 65536 in
theorem w_args : argsFit about1.vm theMethod args0 = true := by decide +kernel
set_option maxRecDepth 65536 in
theorem w_heap : heapFits about1 = true := by decide +kernel
set_option maxRecDepth 65536 in
theorem w_runnable : about1.curStatus? = some .runnable := by decide +kernel
set_option maxRecDepth 65536 in
theorem w_alone : about1.alone = true := by decide +kernel
set_option maxRecDepth 65536 in
theorem w_named : about1.methodNamed? x = some theMethod := by decide +kernel
set_option maxRecDepth 65536 in
theorem w_hears : about1.hears theMethod below0 = true := by decide +kernel
set_option maxRecDepth 65536 in
theorem w_ripe : about1.ripe theMethod args0 below0 = true := by decide +kernel
theorem w_running : about1.status = .running := rfl
set_option maxRecDepth 65536 in
theorem w_room : about1.hasRoom e0.platform room_1 = true :=
  launch0.hasRoom_least _ room_1 (by decide +kernel) (by decide +kernel) (by decide +kernel) (by decide +kernel) (by decide +kernel) (by decide +kernel)
theorem allAtoms_all (ts : List Jvm.Cond) (a : Array Jvm.Value) (st : Jvm.State) : (allAtoms ts).before a st = ts.all (fun c => c.before a st) := by
  induction ts with
  | nil => rfl
  | cons c t ih =>
    show (Jvm.Cond.and c (allAtoms t)).before a st = _
    rw [Jvm.Cond.before_and, ih, List.all_cons]
def words1 : List Jvm.Cond := Jvm.Cond.code x code maxLocals ret :: tables_1
/-- a 'code' word, met by the world's own term for the bytes: nothing is compared byte by byte -/
theorem code_word {y : MethodName} {bytes : ByteArray} {mx : Nat} {rt : Option FieldType} {a : Array Value} {s : State} {m : MethodId} {meth : Method} {c : Code} (h1 : s.methodNamed? y = some m) (h2 : s.vm.method? m = some meth) (h3 : meth.code = some c) (h4 : c.code = bytes)
    (h5 : (c.maxLocals == mx && c.exceptionTable.isEmpty && decide (c.maxStack ≤ mostOperands) && decide (meth.sig.returnType = rt) && !meth.locks && decide (parseMethodDescriptor y.desc = some meth.sig)) = true) : (Jvm.Cond.code y bytes mx rt).before a s = true := by
  simp only [Bool.and_eq_true, beq_iff_eq, Bool.not_eq_true', decide_eq_true_eq] at h5
  obtain ⟨⟨⟨⟨⟨g1, g2⟩, g3⟩, g4⟩, g5⟩, g6⟩ := h5
  simp [Cond.before, Cond.holds, Cond.value, h1, h2, h3, h4, g1, g2, g3, g4, g5, g6]
def isCode : Jvm.Cond → Bool
  | .code _ _ _ _ => true
  | _ => false
theorem all_split {L : List Jvm.Cond} {P : Jvm.Cond → Bool} (h1 : L.all (fun c => isCode c || P c) = true) (h2 : ∀ c ∈ L.filter isCode, P c = true) : L.all P = true := by
  refine List.all_eq_true.mpr fun c hc => ?_
  have h := List.all_eq_true.mp h1 c hc
  rcases Bool.eq_false_or_eq_true (isCode c) with hi | hi
  · exact h2 c (List.mem_filter.mpr ⟨hc, hi⟩)
  · simpa [hi] using h
set_option maxRecDepth 65536 in
theorem w_c0 : (Jvm.Cond.code x code maxLocals ret).before args0 about1 = true := code_word (m := ⟨1, 2⟩) (meth := k1m2) (c := k1c2) (by decide +kernel) rfl rfl rfl (by decide +kernel)
set_option maxRecDepth 65536 in
theorem w_c1 : (Jvm.Cond.code ({ cls := "com/example/otayori/otayori/bench/PairTally", name := "<init>", desc := "(I)V" } : Jvm.MethodName) prog_3_method_1_code (2 : Nat) (Option.none : Option Jvm.ClassFile.FieldType)).before args0 about1 = true := code_word (m := ⟨2, 0⟩) (meth := k2m0) (c := k2c0) (by decide +kernel) rfl rfl rfl (by decide +kernel)
set_option maxRecDepth 65536 in
theorem w_c2 : (Jvm.Cond.code ({ cls := "java/lang/Object", name := "<init>", desc := "()V" } : Jvm.MethodName) object_method_1_code (1 : Nat) (Option.none : Option Jvm.ClassFile.FieldType)).before args0 about1 = true := code_word (m := ⟨0, 0⟩) (meth := k0m0) (c := k0c0) (by decide +kernel) rfl rfl rfl (by decide +kernel)
set_option maxRecDepth 65536 in
theorem w_c3 : (Jvm.Cond.code ({ cls := "com/example/otayori/otayori/bench/PairTally", name := "record", desc := "(IJJZ)Z" } : Jvm.MethodName) prog_3_method_2_code (12 : Nat) (Option.some Jvm.ClassFile.FieldType.boolean)).before args0 about1 = true := code_word (m := ⟨2, 1⟩) (meth := k2m1) (c := k2c1) (by decide +kernel) rfl rfl rfl (by decide +kernel)
set_option maxRecDepth 65536 in
theorem w_c4 : (Jvm.Cond.code ({ cls := "java/lang/Math", name := "max", desc := "(JJ)J" } : Jvm.MethodName) jdk_29_method_66_code (4 : Nat) (Option.some Jvm.ClassFile.FieldType.long)).before args0 about1 = true := code_word (m := ⟨3, 1⟩) (meth := k3m1) (c := k3c1) (by decide +kernel) rfl rfl rfl (by decide +kernel)
set_option maxRecDepth 65536 in
theorem w_c5 : (Jvm.Cond.code ({ cls := "java/lang/Math", name := "min", desc := "(JJ)J" } : Jvm.MethodName) jdk_29_method_70_code (4 : Nat) (Option.some Jvm.ClassFile.FieldType.long)).before args0 about1 = true := code_word (m := ⟨3, 3⟩) (meth := k3m3) (c := k3c3) (by decide +kernel) rfl rfl rfl (by decide +kernel)
set_option maxRecDepth 65536 in
theorem w_c6 : (Jvm.Cond.code ({ cls := "com/example/otayori/otayori/bench/PairTallyLatenciesPinLaw", name := "micros", desc := "(J)I" } : Jvm.MethodName) method_2_code (4 : Nat) (Option.some Jvm.ClassFile.FieldType.int)).before args0 about1 = true := code_word (m := ⟨1, 1⟩) (meth := k1m1) (c := k1c1) (by decide +kernel) rfl rfl rfl (by decide +kernel)
set_option maxRecDepth 65536 in
theorem w_c7 : (Jvm.Cond.code ({ cls := "com/example/otayori/otayori/bench/PairTally", name := "latencies", desc := "()[I" } : Jvm.MethodName) prog_3_method_9_code (1 : Nat) (Option.some (Jvm.ClassFile.FieldType.array Jvm.ClassFile.FieldType.int))).before args0 about1 = true := code_word (m := ⟨2, 2⟩) (meth := k2m2) (c := k2c2) (by decide +kernel) rfl rfl rfl (by decide +kernel)
set_option maxRecDepth 65536 in
theorem w_c8 : (Jvm.Cond.code ({ cls := "java/util/Arrays", name := "copyOf", desc := "([II)[I" } : Jvm.MethodName) jdk_65_method_123_code (3 : Nat) (Option.some (Jvm.ClassFile.FieldType.array Jvm.ClassFile.FieldType.int))).before args0 about1 = true := code_word (m := ⟨4, 1⟩) (meth := k4m1) (c := k4c1) (by decide +kernel) rfl rfl rfl (by decide +kernel)
set_option maxRecDepth 65536 in
theorem w_c9 : (Jvm.Cond.code ({ cls := "java/lang/Math", name := "min", desc := "(II)I" } : Jvm.MethodName) jdk_29_method_69_code (2 : Nat) (Option.some Jvm.ClassFile.FieldType.int)).before args0 about1 = true := code_word (m := ⟨3, 2⟩) (meth := k3m2) (c := k3c2) (by decide +kernel) rfl rfl rfl (by decide +kernel)
def codes1 : List Jvm.Cond := [Jvm.Cond.code x code maxLocals ret, Jvm.Cond.code ({ cls := "com/example/otayori/otayori/bench/PairTally", name := "<init>", desc := "(I)V" } : Jvm.MethodName) prog_3_method_1_code (2 : Nat) (Option.none : Option Jvm.ClassFile.FieldType), Jvm.Cond.code ({ cls := "java/lang/Object", name := "<init>", desc := "()V" } : Jvm.MethodName) object_method_1_code (1 : Nat) (Option.none : Option Jvm.ClassFile.FieldType), Jvm.Cond.code ({ cls := "com/example/otayori/otayori/bench/PairTally", name := "record", desc := "(IJJZ)Z" } : Jvm.MethodName) prog_3_method_2_code (12 : Nat) (Option.some Jvm.ClassFile.FieldType.boolean), Jvm.Cond.code ({ cls := "java/lang/Math", name := "max", desc := "(JJ)J" } : Jvm.MethodName) jdk_29_method_66_code (4 : Nat) (Option.some Jvm.ClassFile.FieldType.long), Jvm.Cond.code ({ cls := "java/lang/Math", name := "min", desc := "(JJ)J" } : Jvm.MethodName) jdk_29_method_70_code (4 : Nat) (Option.some Jvm.ClassFile.FieldType.long), Jvm.Cond.code ({ cls := "com/example/otayori/otayori/bench/PairTallyLatenciesPinLaw", name := "micros", desc := "(J)I" } : Jvm.MethodName) method_2_code (4 : Nat) (Option.some Jvm.ClassFile.FieldType.int), Jvm.Cond.code ({ cls := "com/example/otayori/otayori/bench/PairTally", name := "latencies", desc := "()[I" } : Jvm.MethodName) prog_3_method_9_code (1 : Nat) (Option.some (Jvm.ClassFile.FieldType.array Jvm.ClassFile.FieldType.int)), Jvm.Cond.code ({ cls := "java/util/Arrays", name := "copyOf", desc := "([II)[I" } : Jvm.MethodName) jdk_65_method_123_code (3 : Nat) (Option.some (Jvm.ClassFile.FieldType.array Jvm.ClassFile.FieldType.int)), Jvm.Cond.code ({ cls := "java/lang/Math", name := "min", desc := "(II)I" } : Jvm.MethodName) jdk_29_method_69_code (2 : Nat) (Option.some Jvm.ClassFile.FieldType.int)]
set_option maxRecDepth 65536 in
theorem codes_eq : words1.filter isCode = codes1 := rfl
theorem w_codes : ∀ c ∈ words1.filter isCode, c.before args0 about1 = true := by
  rw [codes_eq]
  intro c hc
  simp only [codes1, List.mem_cons, List.not_mem_nil, or_false] at hc
  rcases hc with rfl | rfl | rfl | rfl | rfl | rfl | rfl | rfl | rfl | rfl
  · exact w_c0
  · exact w_c1
  · exact w_c2
  · exact w_c3
  · exact w_c4
  · exact w_c5
  · exact w_c6
  · exact w_c7
  · exact w_c8
  · exact w_c9
set_option maxRecDepth 65536 in
theorem w_t1 : (words1.take 24).all (fun c => isCode c || c.before args0 about1) = true := by decide +kernel
set_option maxRecDepth 65536 in
theorem w_t2 : ((words1.drop 24).take 24).all (fun c => isCode c || c.before args0 about1) = true := by decide +kernel
set_option maxRecDepth 65536 in
theorem w_t3 : ((words1.drop 24).drop 24).all (fun c => isCode c || c.before args0 about1) = true := by decide +kernel
theorem w_tables : (allAtoms (Jvm.Cond.code x code maxLocals ret :: tables_1)).before args0 about1 = true := by
  rw [allAtoms_all]
  show words1.all (fun c => c.before args0 about1) = true
  refine all_split ?_ w_codes
  rw [← List.take_append_drop 24 words1, List.all_append, w_t1, ← List.take_append_drop 24 (words1.drop 24), List.all_append, w_t2, w_t3]
  rfl
set_option maxRecDepth 65536 in
theorem w_case : (Jvm.Cond.and given_1 narrow_1).before args0 about1 = true := by decide +kernel
theorem w_applies : (headSpec (Jvm.Cond.code x code maxLocals ret :: tables_1) room_1).applies x e0.platform about1 = true :=
  (Spec.applies_iff w_frames).mpr ⟨w_running, w_runnable, w_alone, w_named, w_hears, w_ripe, w_room, w_tables⟩
theorem atStart : AtStart classFile x code maxLocals ret World_1 tables_1 room_1 Calls_1 rest_1 Pre_1 launch0 p0 e0 about1 theMethod args0 below0 :=
  ⟨lists_1, trivial, launch0.admits_env _ _ _, launch0.least_env, fairChoices_fair.cas, fairChoices_fair.clock, w_frames, w_args, w_heap, w_applies, trivial, trivial, w_case⟩
end start1
theorem witness_1 : WitnessClaimed_1 := ⟨start1.p0, start1.e0, start1.about1, start1.theMethod, start1.args0, start1.below0, start1.atStart⟩
end Jvm.Pilot.@@N@@
