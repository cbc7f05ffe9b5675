import JvmDerived
import JvmDerived.Pilot.@@N@@Statement
import JvmDerived.Pilot.@@N@@Code
set_option linter.unusedVariables false
set_option linter.unusedSimpArgs false
namespace Jvm.RoadKit
open Sem ClassFile Op Lib Jvm.Stand Jvm.Free Jvm.LawKit
section New
variable {p : Program} {l : Launch} {e : Env} {R : Room} {s : State} {m : MethodId} {args : Array Value} {below : List Frame} {meth : Method} {c : Code} {T : State} {locs : List Loc} {cells slots : Nat}
theorem retI (X : Stand p l e R s m args below meth c T locs cells slots) (hx : p.tables.exec = Jvm.exec) {pc : Nat} {Ls : Array Slot} {z : Int32} {rest : List Value} (hret : meth.sig.returnType = some .int) (hd : decode c.code pc = .ok (.ireturn, 1)) {fs : List Frame}
    (hl : ∀ (f : JFrame) (acts : List Action), f.method = m → f.locked = none → f.entered = [] → (doReturn e (T.setTop f) acts (some (.int z))).1 = T.setFrames fs) : Steps p.tables e below (T.setTop (mkF m pc Ls (.int z :: rest))) (T.setFrames fs) := by
  have hm' : T.vm.method? m = some meth := X.method'
  have hn : narrow .int (.int z) = .int z := rfl
  show Steps p.tables e below (T.setTop { method := m, pc := pc, locals := Ls, stack := _ :: rest, locked := none }) _
  jvm_step X.here [X.here.top, hx, hd, hm', hret, hn]
  first | (intro acts; rw [hl _ acts rfl rfl rfl]) | rw [hl _ _ rfl rfl rfl]
  exact Steps.refl _
/-- from here the run ends as G says -/
def WP (tb : Tables) (e : Env) (below : List Frame) (G : State → Outcome → Prop) (T : State) (f : JFrame) : Prop := ∃ s₂ o, Steps tb e below (T.setTop f) s₂ ∧ G s₂ o
theorem WP.go {tb : Tables} {G : State → Outcome → Prop} {f : JFrame} (h : WP tb e below G T f) : ∃ s₂ o, Steps tb e below (T.setTop f) s₂ ∧ G s₂ o := h
theorem WP.fin {tb : Tables} {G : State → Outcome → Prop} {f : JFrame} (h : ∃ s₂ o, Steps tb e below (T.setTop f) s₂ ∧ G s₂ o) : WP tb e below G T f := h
theorem WP.cast {tb : Tables} {G : State → Outcome → Prop} {f f' : JFrame} (q : f = f') (h : WP tb e below G T f') : WP tb e below G T f := q ▸ h
theorem WP.st {tb : Tables} {G : State → Outcome → Prop} {T' : State} {f f' : JFrame} (k : ∀ t, Steps tb e below (T'.setTop f') t → Steps tb e below (T.setTop f) t) (h : WP tb e below G T' f') : WP tb e below G T f := by
  obtain ⟨s₂, o, h1, h2⟩ := h
  exact ⟨s₂, o, k _ h1, h2⟩
theorem WP.tr {tb : Tables} {G : State → Outcome → Prop} {T' : State} {f f' : JFrame} (k : Steps tb e below (T.setTop f) (T'.setTop f')) (h : WP tb e below G T' f') : WP tb e below G T f := by
  obtain ⟨s₂, o, h1, h2⟩ := h
  exact ⟨s₂, o, k.trans h1, h2⟩
theorem WP.name {tb : Tables} {G : State → Outcome → Prop} {f : JFrame} (h : ∀ G', G' = G → WP tb e below G' T f) : WP tb e below G T f := h G rfl
theorem ownWider (X : Stand p l e R s m args below meth c T locs cells slots) {c' s' : Nat} (h1 : cells ≤ c') (h2 : slots ≤ s') : Stand p l e R s m args below meth c T locs c' s' := { X with same := X.same.mono h1 h2 }
end New
theorem Arv.rd {Z : State} {h : Heap} {a : Addr} {k : ClassId} {ty : FieldType} {z j : Int32} {vs : List Value} {dv : Value} (F : Arv Z h a k ty z vs dv) (hj : ¬ j < 0 ∧ j < z) : ∃ c : Cell, Arr Z h a c ty ∧ ¬ (j < 0 ∨ c.slots.size ≤ j.toNatClampNeg) ∧ c.slots[j.toNatClampNeg]? = some (vs.getD j.toNatClampNeg dv) ∧ c.slots.size.toInt32 = z := by
  obtain ⟨c, A, -, S, q, H, -⟩ := F
  have hin := inb_of S hj
  exact ⟨c, A, hin, H.at hin rfl, len_of S q⟩
theorem Arv.len {Z : State} {h : Heap} {a : Addr} {k : ClassId} {ty : FieldType} {z : Int32} {vs : List Value} {dv : Value} (F : Arv Z h a k ty z vs dv) : ∃ c : Cell, Arr Z h a c ty ∧ c.slots.size.toInt32 = z := by
  obtain ⟨c, A, -, S, q, -, -⟩ := F
  exact ⟨c, A, len_of S q⟩
theorem ownFits {t : FieldType} {x : Int32} {y : Value} (h : narrow t (.int x) = y) (hf : fits t (narrow t (.int x)) = true) : fits t y = true := h ▸ hf
theorem nar01 {b : Int32} (h : b = 0 ∨ b = 1) : nar .boolean b = b := by rcases h with rfl | rfl <;> rfl
end Jvm.RoadKit
/- laws to paste: Road.backV, Road.chN, Road.codOf (cut by pick.py; bodies as the Statement names them) -/
namespace Jvm.Pilot.@@N@@
namespace StrChars
open Jvm Sem ClassFile Op Lib Jvm.Stand Jvm.Free.XT Jvm.Free.ALB Jvm.Free.JM Jvm.Free
open Jvm.Lib.Cold (StaticIs)
/-- a char array whose places are chars -/
def Ch (a : Addr) (A : Cell) (U : State) : Prop := Arr .char a A U ∧ Typed .char A
theorem Ch.mv {a : Addr} {A : Cell} {U U' : State} (h : Ch a A U) (hal : U.vm.Alike U'.vm) (hh : U'.heap = U.heap) : Ch a A U' := ⟨h.1.mv hal hh, h.2⟩
theorem Ch.keep {a : Addr} {A : Cell} {U U' : State} (h : Ch a A U) (hal : U.vm.Alike U'.vm) (hk : U'.heap[a]? = some A) : Ch a A U' := ⟨h.1.keep hal hk, h.2⟩
/-- what place i of a char[]'s cell holds -/
def cv (A : Cell) (i : Nat) : Int32 := match A.slots[i]? with | some (.int x) => x | _ => 0
theorem Ch.get {a : Addr} {A : Cell} {U : State} (h : Ch a A U) {i : Nat} (hi : i < A.slots.size) : A.slots[i]? = some (.int (cv A i)) := by
  have e := Array.getElem?_eq_getElem hi
  have f := h.2 i _ e
  unfold cv; rw [e]
  generalize A.slots[i] = v at f
  cases v <;> simp [fits] at f ⊢
/-- the byte that i2b leaves of a char -/
def lo8 (x : Int32) : Int32 := x.toInt8.toInt32
theorem fits_lo8 (y : Int32) : fits .byte (.int (lo8 y)) = true := by
  have h1 := y.toInt8.le_toInt
  have h2 := y.toInt8.toInt_lt
  simp only [lo8, fits, Bool.and_eq_true, decide_eq_true_eq, Int32.le_iff_toInt_le, Int8.toInt_toInt32, show (-128 : Int32).toInt = -128 from by decide, show (127 : Int32).toInt = 127 from by decide]
  omega
/-- A' is A but that each place j of lo .. hi - 1 holds f j -/
def Laid (A A' : Cell) (lo hi : Nat) (f : Nat → Value) : Prop := A'.cls = A.cls ∧ A'.vm = A.vm ∧ A'.slots.size = A.slots.size ∧ ∀ i, A'.slots[i]? = if lo ≤ i ∧ i < hi then some (f i) else A.slots[i]?
theorem Laid.zero (A : Cell) (lo : Nat) (f : Nat → Value) : Laid A A lo (lo + 0) f := ⟨rfl, rfl, rfl, fun i => by rw [if_neg (by omega)]⟩
theorem Laid.step {A Ak : Cell} {lo k : Nat} {f : Nat → Value} {v : Value} (h : Laid A Ak lo k f) (hlo : lo ≤ k) (hk : k < Ak.slots.size) (hv : v = f k) : Laid A (Ak.setSlot k v) lo (k + 1) f := by
  refine ⟨h.1, h.2.1, by simpa [Cell.setSlot] using h.2.2.1, fun i => ?_⟩
  by_cases e : k = i
  · subst e; rw [Cell.slots_setSlot_self v hk, if_pos (by omega), hv]
  · rw [Cell.slots_setSlot_ne v e, h.2.2.2 i]
    by_cases q : lo ≤ i ∧ i < k
    · rw [if_pos q, if_pos (by omega)]
    · rw [if_neg q, if_neg (by omega)]
def U16 : String := "java/lang/StringUTF16"
namespace Cmp5
def yN : MethodName := ⟨"java/lang/StringUTF16", "compress", "([CI[BII)I"⟩
abbrev yB : ByteArray := jdk_52_method_21_code
theorem d0 : decode yB 0 = .ok (.iconst 0, 1) := by decide +kernel
theorem d1 : decode yB 1 = .ok (.istore 5, 2) := by decide +kernel
theorem d3 : decode yB 3 = .ok (.iload 5, 2) := by decide +kernel
theorem d5 : decode yB 5 = .ok (.iload 4, 2) := by decide +kernel
theorem d7 : decode yB 7 = .ok (.if_icmp (.ge) 37, 3) := by decide +kernel
theorem d10 : decode yB 10 = .ok (.aload_n 0, 1) := by decide +kernel
theorem d11 : decode yB 11 = .ok (.iload_n 1, 1) := by decide +kernel
theorem d12 : decode yB 12 = .ok (.caload, 1) := by decide +kernel
theorem d13 : decode yB 13 = .ok (.istore 6, 2) := by decide +kernel
theorem d15 : decode yB 15 = .ok (.iload 6, 2) := by decide +kernel
theorem d17 : decode yB 17 = .ok (.sipush 255, 3) := by decide +kernel
theorem d20 : decode yB 20 = .ok (.if_icmp (.le) 6, 3) := by decide +kernel
theorem d26 : decode yB 26 = .ok (.aload_n 2, 1) := by decide +kernel
theorem d27 : decode yB 27 = .ok (.iload_n 3, 1) := by decide +kernel
theorem d28 : decode yB 28 = .ok (.iload 6, 2) := by decide +kernel
theorem d30 : decode yB 30 = .ok (.i2b, 1) := by decide +kernel
theorem d31 : decode yB 31 = .ok (.bastore, 1) := by decide +kernel
theorem d32 : decode yB 32 = .ok (.iinc 1 1, 3) := by decide +kernel
theorem d35 : decode yB 35 = .ok (.iinc 3 1, 3) := by decide +kernel
theorem d38 : decode yB 38 = .ok (.iinc 5 1, 3) := by decide +kernel
theorem d41 : decode yB 41 = .ok (.goto (-38), 3) := by decide +kernel
theorem d44 : decode yB 44 = .ok (.iload 4, 2) := by decide +kernel
theorem d46 : decode yB 46 = .ok (.ireturn, 1) := by decide +kernel
def site : List Cond := []
def tab : Cond := tabOf yN yB 7 (some .int) site
def P (b : Addr) (A : Cell) (d : Addr) (B : Cell) (o q len : Nat) (args : Array Value) (s : State) : Prop := args = #[.ref b, .int (Int32.ofNat o), .ref d, .int (Int32.ofNat q), .int (Int32.ofNat len)] ∧ Ch b A s ∧ Arr .byte d B s ∧ b ≠ d ∧ o + len ≤ A.slots.size ∧ q + len ≤ B.slots.size ∧ ∀ i, i < len → ¬ 255 < cv A (o + i)
def E (b : Addr) (A : Cell) (d : Addr) (B : Cell) (o q len : Nat) (r : Option Value) (s u : State) : Prop := r = some (.int (Int32.ofNat len)) ∧ ∃ B', Put d B' s u ∧ Laid B B' q (q + len) (fun j => Value.int (lo8 (cv A (o + (j - q)))))
/-- no char of the range above 255: len; the places written hold each char's low byte -/
theorem law (l : Launch) (b : Addr) (A : Cell) (d : Addr) (B : Cell) (o q len : Nat) : Law l yN 5 5 0 0 yB 7 (some .int) site (P b A d B o q len) (E b A d B o q len) (copyLocs d q len) 0 0 := by
  refine Law.of_walk (plainFor_of_name (by decide +kernel)) (by decide +kernel) (by decide +kernel) (by decide) (fun _ _ h => by rw [h.1]; rfl) (fun _ U U' hal hh h => ⟨h.1, h.2.1.mv hal hh, h.2.2.1.mv hal hh, h.2.2.2⟩) (fun r U U' V V' h1 hal h2 h => ⟨h.1, h.2.elim fun B' q => ⟨B', q.1.mv h1 h2, q.2⟩⟩) ?_
  intro p e s m args below meth c s₁ X0 hexec hbytes hml hret hlk hnm hown hh0 W hP
  obtain ⟨rfl, hA, hB, hne, l1, l2, hp⟩ := hP
  have c1 : Steps p.tables e below (s₁.setTop (entryFrame m #[.ref b, .int (Int32.ofNat o), .ref d, .int (Int32.ofNat q), .int (Int32.ofNat len)] 7)) (s₁.setTop (mkF m 0 #[.val (.ref b), .val (.int (Int32.ofNat o)), .val (.ref d), .val (.int (Int32.ofNat q)), .val (.int (Int32.ofNat len)), .unset, .unset] [])) := entry rfl
  have hA0 := hA.1.mv X0.warmed.alike hh0
  have hB0 := hB.mv X0.warmed.alike hh0
  have a31 := hA.1.2.2.2
  have c2 : Steps p.tables e below (s₁.setTop (entryFrame m #[.ref b, .int (Int32.ofNat o), .ref d, .int (Int32.ofNat q), .int (Int32.ofNat len)] 7)) (s₁.setTop (mkF m 3 #[.val (.ref b), .val (.int (Int32.ofNat o)), .val (.ref d), .val (.int (Int32.ofNat q)), .val (.int (Int32.ofNat len)), .val (.int 0), .unset] [])) := c1.trans (by
    refine iconstV X0.here hexec rfl 0 (hb hbytes d0) (by decide) ?_
    refine XS.istore X0.here hexec rfl (hb hbytes d1) rfl rfl ?_
    exact Steps.refl _)
  have loop : ∀ (r i : Nat), i + r = len → ∀ (z : Slot), (z = .unset ∨ ∃ w, z = .val w ∧ w.category = 1) → ∀ (Tl : State) (Bk : Cell), Stand p l e { frames := 0, locals := 0, cells := 0, slots := 0 } s m #[.ref b, .int (Int32.ofNat o), .ref d, .int (Int32.ofNat q), .int (Int32.ofNat len)] below meth c Tl ([] ++ copyLocs d q i) 0 0 → Put d Bk s₁ Tl → Laid B Bk q (q + i) (fun j => Value.int (lo8 (cv A (o + (j - q))))) →
      Steps p.tables e below (s₁.setTop (entryFrame m #[.ref b, .int (Int32.ofNat o), .ref d, .int (Int32.ofNat q), .int (Int32.ofNat len)] 7)) (Tl.setTop (mkF m 3 #[.val (.ref b), .val (.int (Int32.ofNat (o + i))), .val (.ref d), .val (.int (Int32.ofNat (q + i))), .val (.int (Int32.ofNat len)), .val (.int (Int32.ofNat i)), z] [])) → ∃ (T' : State) (B' : Cell) (z' : Slot), Stand p l e { frames := 0, locals := 0, cells := 0, slots := 0 } s m #[.ref b, .int (Int32.ofNat o), .ref d, .int (Int32.ofNat q), .int (Int32.ofNat len)] below meth c T' ([] ++ copyLocs d q len) 0 0 ∧ Put d B' s₁ T' ∧ Laid B B' q (q + len) (fun j => Value.int (lo8 (cv A (o + (j - q))))) ∧
      Steps p.tables e below (s₁.setTop (entryFrame m #[.ref b, .int (Int32.ofNat o), .ref d, .int (Int32.ofNat q), .int (Int32.ofNat len)] 7)) (T'.setTop (mkF m 3 #[.val (.ref b), .val (.int (Int32.ofNat (o + len))), .val (.ref d), .val (.int (Int32.ofNat (q + len))), .val (.int (Int32.ofNat len)), .val (.int (Int32.ofNat len)), z'] [])) := by
    intro r
    induction r with
    | zero =>
      intro i hi z hz Tl Bk Xl pl fl cl
      have hil : i = len := by omega
      rw [hil] at Xl fl cl
      exact ⟨Tl, Bk, z, Xl, pl, fl, cl⟩
    | succ r ih =>
      intro i hi z hz Tl Bk Xl pl fl cl
      have all := X0.warmed.alike.symm.trans Xl.warmed.alike
      have hAl := hA0.keep all (pl.other hne hA0.1)
      have hBk := hB0.like all pl.1 fl.1 fl.2.1 fl.2.2.1
      have hlt : q + i < Bk.slots.size := by rw [fl.2.2.1]; omega
      have c3 : Steps p.tables e below (s₁.setTop (entryFrame m #[.ref b, .int (Int32.ofNat o), .ref d, .int (Int32.ofNat q), .int (Int32.ofNat len)] 7)) (Tl.setTop (mkF m 12 #[.val (.ref b), .val (.int (Int32.ofNat (o + i))), .val (.ref d), .val (.int (Int32.ofNat (q + i))), .val (.int (Int32.ofNat len)), .val (.int (Int32.ofNat i)), z] [.int (Int32.ofNat (o + i)), .ref b])) := cl.trans (by
        refine XS.iload Xl.here hexec rfl (hb hbytes d3) rfl ?_
        refine XS.iload Xl.here hexec rfl (hb hbytes d5) rfl ?_
        refine XS.icmpNo Xl.here hexec rfl (hb hbytes d7) rfl (ii_ge_f (lt32 (by omega) (by omega))) ?_
        refine XS.aloadN Xl.here hexec rfl (hb hbytes d10) rfl rfl ?_
        refine XS.iloadN Xl.here hexec rfl (hb hbytes d11) rfl ?_
        exact Steps.refl _)
      have c4 : Steps p.tables e below (s₁.setTop (entryFrame m #[.ref b, .int (Int32.ofNat o), .ref d, .int (Int32.ofNat q), .int (Int32.ofNat len)] 7)) (Tl.setTop (mkF m 13 #[.val (.ref b), .val (.int (Int32.ofNat (o + i))), .val (.ref d), .val (.int (Int32.ofNat (q + i))), .val (.int (Int32.ofNat len)), .val (.int (Int32.ofNat i)), z] [.int (cv A (o + i))])) := c3.trans (by
        refine Xl.aget hexec hAl rfl (hA.get (i := o + i) (by omega)) rfl rfl (hb hbytes d12) ?_
        exact Steps.refl _)
      have c5 : Steps p.tables e below (s₁.setTop (entryFrame m #[.ref b, .int (Int32.ofNat o), .ref d, .int (Int32.ofNat q), .int (Int32.ofNat len)] 7)) (Tl.setTop (mkF m 15 #[.val (.ref b), .val (.int (Int32.ofNat (o + i))), .val (.ref d), .val (.int (Int32.ofNat (q + i))), .val (.int (Int32.ofNat len)), .val (.int (Int32.ofNat i)), .val (.int (cv A (o + i)))] [])) := c4.trans (by
        refine XS.istoreS Xl.here hexec rfl (hb hbytes d13) rfl rfl hz ?_
        exact Steps.refl _)
      have c6 : Steps p.tables e below (s₁.setTop (entryFrame m #[.ref b, .int (Int32.ofNat o), .ref d, .int (Int32.ofNat q), .int (Int32.ofNat len)] 7)) (Tl.setTop (mkF m 31 #[.val (.ref b), .val (.int (Int32.ofNat (o + i))), .val (.ref d), .val (.int (Int32.ofNat (q + i))), .val (.int (Int32.ofNat len)), .val (.int (Int32.ofNat i)), .val (.int (cv A (o + i)))] [.int (lo8 (cv A (o + i))), .int (Int32.ofNat (q + i)), .ref d])) := c5.trans (by
        refine XS.iload Xl.here hexec rfl (hb hbytes d15) rfl ?_
        refine sipushV Xl.here hexec rfl 255 (hb hbytes d17) (by decide) ?_
        refine XS.icmpYes Xl.here hexec rfl (pc0 := 20) rfl (hb hbytes d20) rfl (ii_le_t (hp i (by omega))) (by decide) rfl ?_
        refine XS.aloadN Xl.here hexec rfl (hb hbytes d26) rfl rfl ?_
        refine XS.iloadN Xl.here hexec rfl (hb hbytes d27) rfl ?_
        refine XS.iload Xl.here hexec rfl (hb hbytes d28) rfl ?_
        refine i2b Xl.here hexec rfl (hb hbytes d30) rfl ?_
        exact Steps.refl _)
      obtain ⟨T7, X7, p7, st7⟩ := Xl.aput hexec hBk rfl hlt rfl (fits_lo8 (cv A (o + i))) (g := (mkF m 31 #[.val (.ref b), .val (.int (Int32.ofNat (o + i))), .val (.ref d), .val (.int (Int32.ofNat (q + i))), .val (.int (Int32.ofNat len)), .val (.int (Int32.ofNat i)), .val (.int (cv A (o + i)))] [.int (lo8 (cv A (o + i))), .int (Int32.ofNat (q + i)), .ref d])) rfl (rest := []) rfl (hb hbytes d31)
      have c8 : Steps p.tables e below (s₁.setTop (entryFrame m #[.ref b, .int (Int32.ofNat o), .ref d, .int (Int32.ofNat q), .int (Int32.ofNat len)] 7)) (T7.setTop (mkF m 32 #[.val (.ref b), .val (.int (Int32.ofNat (o + i))), .val (.ref d), .val (.int (Int32.ofNat (q + i))), .val (.int (Int32.ofNat len)), .val (.int (Int32.ofNat i)), .val (.int (cv A (o + i)))] [])) := c6.trans (st7 _ (Steps.refl _))
      have c9 : Steps p.tables e below (s₁.setTop (entryFrame m #[.ref b, .int (Int32.ofNat o), .ref d, .int (Int32.ofNat q), .int (Int32.ofNat len)] 7)) (T7.setTop (mkF m 3 #[.val (.ref b), .val (.int (Int32.ofNat (o + i) + 1)), .val (.ref d), .val (.int (Int32.ofNat (q + i) + 1)), .val (.int (Int32.ofNat len)), .val (.int (Int32.ofNat i + 1)), .val (.int (cv A (o + i)))] [])) := c8.trans (by
        refine iincV X7.here hexec rfl 1 (hb hbytes d32) (by decide) rfl rfl ?_
        refine iincV X7.here hexec rfl 1 (hb hbytes d35) (by decide) rfl rfl ?_
        refine iincV X7.here hexec rfl 1 (hb hbytes d38) (by decide) rfl rfl ?_
        refine XS.goto X7.here hexec rfl (pc0 := 41) rfl (hb hbytes d41) (by decide) rfl ?_
        exact Steps.refl _)
      have c10 : Steps p.tables e below (s₁.setTop (entryFrame m #[.ref b, .int (Int32.ofNat o), .ref d, .int (Int32.ofNat q), .int (Int32.ofNat len)] 7)) (T7.setTop (mkF m 3 #[.val (.ref b), .val (.int (Int32.ofNat (o + (i + 1)))), .val (.ref d), .val (.int (Int32.ofNat (q + (i + 1)))), .val (.int (Int32.ofNat len)), .val (.int (Int32.ofNat (i + 1))), .val (.int (cv A (o + i)))] [])) := by
        have := c9
        rw [succ32, succ32, succ32] at this
        exact this
      exact ih (i + 1) (by omega) _ (Or.inr ⟨_, rfl, rfl⟩) T7 _ (by rw [copyLocs_step, ← List.append_assoc]; exact X7) (pl.trans p7) (fl.step (by omega) hlt (by simp)) c10
  obtain ⟨T9, B9, z9, X9, p9, f9, g9⟩ := loop len 0 (by omega) .unset (Or.inl rfl) s₁ B (by simpa [copyLocs] using X0) ⟨hB0.1, fun _ _ => rfl, rfl⟩ (Laid.zero _ _ _) c2
  have c11 : Steps p.tables e below (s₁.setTop (entryFrame m #[.ref b, .int (Int32.ofNat o), .ref d, .int (Int32.ofNat q), .int (Int32.ofNat len)] 7)) (T9.setTop (mkF m 46 #[.val (.ref b), .val (.int (Int32.ofNat (o + len))), .val (.ref d), .val (.int (Int32.ofNat (q + len))), .val (.int (Int32.ofNat len)), .val (.int (Int32.ofNat len)), z9] [.int (Int32.ofNat len)])) := g9.trans (by
    refine XS.iload X9.here hexec rfl (hb hbytes d3) rfl ?_
    refine XS.iload X9.here hexec rfl (hb hbytes d5) rfl ?_
    refine XS.icmpYes X9.here hexec rfl (pc0 := 7) rfl (hb hbytes d7) rfl (ii_ge_t (nlt32 (by omega) (Nat.le_refl _))) (by decide) rfl ?_
    refine XS.iload X9.here hexec rfl (hb hbytes d44) rfl ?_
    exact Steps.refl _)
  exact ⟨T9, some (.int (Int32.ofNat len)), _, _, _, X9, by simp, rfl, rfl, (fun h => by cases h), ⟨rfl, B9, p9.from hh0, f9⟩, fun fs hl => c11.trans (X9.ireturnOut hexec hret rfl (Or.inl rfl) (hb hbytes d46) hl)⟩
end Cmp5
namespace Cmp3
def yN : MethodName := ⟨"java/lang/StringUTF16", "compress", "([CII)[B"⟩
abbrev yB : ByteArray := jdk_52_method_16_code
theorem d0 : decode yB 0 = .ok (.iload_n 2, 1) := by decide +kernel
theorem d1 : decode yB 1 = .ok (.newarray .byte, 2) := by decide +kernel
theorem d3 : decode yB 3 = .ok (.astore_n 3, 1) := by decide +kernel
theorem d4 : decode yB 4 = .ok (.aload_n 0, 1) := by decide +kernel
theorem d5 : decode yB 5 = .ok (.iload_n 1, 1) := by decide +kernel
theorem d6 : decode yB 6 = .ok (.aload_n 3, 1) := by decide +kernel
theorem d7 : decode yB 7 = .ok (.iconst 0, 1) := by decide +kernel
theorem d8 : decode yB 8 = .ok (.iload_n 2, 1) := by decide +kernel
theorem d9 : decode yB 9 = .ok (.invokestatic 115, 3) := by decide +kernel
theorem d12 : decode yB 12 = .ok (.istore 4, 2) := by decide +kernel
theorem d14 : decode yB 14 = .ok (.iload 4, 2) := by decide +kernel
theorem d16 : decode yB 16 = .ok (.iload_n 2, 1) := by decide +kernel
theorem d17 : decode yB 17 = .ok (.if_icmp (.eq) 40, 3) := by decide +kernel
theorem d57 : decode yB 57 = .ok (.aload_n 3, 1) := by decide +kernel
theorem d58 : decode yB 58 = .ok (.areturn, 1) := by decide +kernel
def site : List Cond := [.arrayClass .byte, Cmp5.tab] ++ staticW U16 115 Cmp5.yN
def tab : Cond := tabOf yN yB 6 (some (.array .byte)) site
def P (b : Addr) (A : Cell) (o len : Nat) (args : Array Value) (s : State) : Prop := args = #[.ref b, .int (Int32.ofNat o), .int (Int32.ofNat len)] ∧ Ch b A s ∧ o + len ≤ A.slots.size ∧ len ≤ 536870912 ∧ ∀ i, i < len → ¬ 255 < cv A (o + i)
def E (b : Addr) (A : Cell) (o len : Nat) (r : Option Value) (s u : State) : Prop := NewArr .byte "[B" len (fun j => .int (lo8 (cv A (o + j)))) r s u ∧ u.heap.size = s.heap.size + 1
/-- no char of the range above 255: a new byte[] of their low bytes -/
theorem law (l : Launch) (b : Addr) (A : Cell) (o len : Nat) : Law l yN 3 3 1 18 yB 6 (some (.array .byte)) site (P b A o len) (E b A o len) [] 1 len := by
  refine Law.of_walk (plainFor_of_name (by decide +kernel)) (by decide +kernel) (by decide +kernel) (by decide) (fun _ _ h => by rw [h.1]; rfl) (fun _ U U' hal hh h => ⟨h.1, h.2.1.mv hal hh, h.2.2⟩) (fun r U U' V V' h1 hal h2 h => ⟨NewArr.mv r U U' V V' h1 hal h2 h.1, by rw [h1, h2]; exact h.2⟩) ?_
  intro p e s m args below meth c s₁ X0 hexec hbytes hml hret hlk hnm hown hh0 W hP
  obtain ⟨rfl, hA, l1, l2, hp⟩ := hP
  have a31 := hA.1.2.2.2
  have c1 : Steps p.tables e below (s₁.setTop (entryFrame m #[.ref b, .int (Int32.ofNat o), .int (Int32.ofNat len)] 6)) (s₁.setTop (mkF m 0 #[.val (.ref b), .val (.int (Int32.ofNat o)), .val (.int (Int32.ofNat len)), .unset, .unset, .unset] [])) := entry rfl
  have c2 : Steps p.tables e below (s₁.setTop (entryFrame m #[.ref b, .int (Int32.ofNat o), .int (Int32.ofNat len)] 6)) (s₁.setTop (mkF m 1 #[.val (.ref b), .val (.int (Int32.ofNat o)), .val (.int (Int32.ofNat len)), .unset, .unset, .unset] [.int (Int32.ofNat len)])) := c1.trans (by
    refine XS.iloadN X0.here hexec rfl (hb hbytes d0) rfl ?_
    exact Steps.refl _)
  obtain ⟨T3, B3, X3, ba3, bs3, bv3, bh3, bf3, st3⟩ := X0.anew hexec (atype := .byte) (wk W (.arrayClass .byte)) rfl (by show len * 1 ≤ _; omega) (by omega) (g := (mkF m 1 #[.val (.ref b), .val (.int (Int32.ofNat o)), .val (.int (Int32.ofNat len)), .unset, .unset, .unset] [.int (Int32.ofNat len)])) rfl (hb hbytes d1) (rest := []) rfl (Nat.le_refl _) (by show 0 + len ≤ len; omega)
  rw [hh0] at ba3 st3
  have kp3 : XT.Kept s T3 := (XT.Kept.of_eq hh0).push bh3
  have hA3 := hA.keep X3.warmed.alike (kp3 _ _ hA.1.1)
  have hne : b ≠ s.heap.size := hA.1.ne
  have c4 : Steps p.tables e below (s₁.setTop (entryFrame m #[.ref b, .int (Int32.ofNat o), .int (Int32.ofNat len)] 6)) (T3.setTop (mkF m 3 #[.val (.ref b), .val (.int (Int32.ofNat o)), .val (.int (Int32.ofNat len)), .unset, .unset, .unset] [.ref s.heap.size])) := c2.trans (st3 _ (Steps.refl _))
  have c5 : Steps p.tables e below (s₁.setTop (entryFrame m #[.ref b, .int (Int32.ofNat o), .int (Int32.ofNat len)] 6)) (T3.setTop (mkF m 9 #[.val (.ref b), .val (.int (Int32.ofNat o)), .val (.int (Int32.ofNat len)), .val (.ref s.heap.size), .unset, .unset] [.int (Int32.ofNat len), .int 0, .ref s.heap.size, .int (Int32.ofNat o), .ref b])) := c4.trans (by
    refine XS.astoreN X3.here hexec rfl (hb hbytes d3) rfl rfl rfl ?_
    refine XS.aloadN X3.here hexec rfl (hb hbytes d4) rfl rfl ?_
    refine XS.iloadN X3.here hexec rfl (hb hbytes d5) rfl ?_
    refine XS.aloadN X3.here hexec rfl (hb hbytes d6) rfl rfl ?_
    refine iconstV X3.here hexec rfl 0 (hb hbytes d7) (by decide) ?_
    refine XS.iloadN X3.here hexec rfl (hb hbytes d8) rfl ?_
    exact Steps.refl _)
  obtain ⟨v6, T6, X6, E6, g6⟩ := X3.callS hexec (Cmp5.law l b A s.heap.size B3 o 0 len) hown (wks W (staticW U16 115 Cmp5.yN)) (wk W Cmp5.tab) (W := 0) (Nat.le_of_ble_eq_true rfl) (Nat.le_of_ble_eq_true rfl) (Nat.le_refl _) (by show 0 + len + 0 ≤ len; omega) (g := (mkF m 9 #[.val (.ref b), .val (.int (Int32.ofNat o)), .val (.int (Int32.ofNat len)), .val (.ref s.heap.size), .unset, .unset] [.int (Int32.ofNat len), .int (Int32.ofNat 0), .ref s.heap.size, .int (Int32.ofNat o), .ref b])) rfl (by rw [hml]; rfl) c5 (argsL := [.ref b, .int (Int32.ofNat o), .ref s.heap.size, .int (Int32.ofNat 0), .int (Int32.ofNat len)]) (rest := []) rfl rfl (by show 2 * 0 + 0 ≤ _; decide) (hb hbytes d9) (⟨rfl, hA3, ba3, hne, l1, by rw [bs3]; simp, hp⟩)
  obtain ⟨rfl, B6, p6, f6⟩ := E6
  have c7 : Steps p.tables e below (s₁.setTop (entryFrame m #[.ref b, .int (Int32.ofNat o), .int (Int32.ofNat len)] 6)) (T6.setTop (mkF m 12 #[.val (.ref b), .val (.int (Int32.ofNat o)), .val (.int (Int32.ofNat len)), .val (.ref s.heap.size), .unset, .unset] [.int (Int32.ofNat len)])) := g6
  have c8 : Steps p.tables e below (s₁.setTop (entryFrame m #[.ref b, .int (Int32.ofNat o), .int (Int32.ofNat len)] 6)) (T6.setTop (mkF m 58 #[.val (.ref b), .val (.int (Int32.ofNat o)), .val (.int (Int32.ofNat len)), .val (.ref s.heap.size), .val (.int (Int32.ofNat len)), .unset] [.ref s.heap.size])) := c7.trans (by
    refine XS.istore X6.here hexec rfl (hb hbytes d12) rfl rfl ?_
    refine XS.iload X6.here hexec rfl (hb hbytes d14) rfl ?_
    refine XS.iloadN X6.here hexec rfl (hb hbytes d16) rfl ?_
    refine XS.icmpYes X6.here hexec rfl (pc0 := 17) rfl (hb hbytes d17) rfl (ii_eq_t rfl) (by decide) rfl ?_
    refine XS.aloadN X6.here hexec rfl (hb hbytes d57) rfl rfl ?_
    exact Steps.refl _)
  have X8 := X6.wide (L' := []) (cells' := 1) (slots' := len) (fun x hx hlt => by
    simp only [List.nil_append, copyLocs, List.mem_map, List.mem_range] at hx
    obtain ⟨i, -, rfl⟩ := hx
    exact absurd hlt (Nat.lt_irrefl _)) (Nat.le_refl _) (by omega)
  exact ⟨T6, some (.ref s.heap.size), _, _, _, X8, rfl, rfl, rfl, (fun h => by cases h), ⟨⟨rfl, B6, ba3.like (X3.warmed.alike.symm.trans X6.warmed.alike) p6.1 f6.1 f6.2.1 f6.2.2.1, f6.2.1.trans bv3, by rw [X6.warmed.alike.findClass, f6.1]; exact bf3, by rw [f6.2.2.1, bs3]; simp, fun j hj => by rw [f6.2.2.2 j, if_pos (by omega)]; rfl, kp3.put p6 (Nat.le_refl _)⟩, by rw [p6.2.2, bh3, hh0]; simp⟩, fun fs hl => c8.trans (X8.areturnOut hexec rfl hret rfl (hb hbytes d58) hl)⟩
end Cmp3
namespace CodL
def yN : MethodName := ⟨"java/lang/StringUTF16", "coderFromArrayLen", "([BI)B"⟩
abbrev yB : ByteArray := jdk_52_method_15_code
theorem d0 : decode yB 0 = .ok (.iload_n 1, 1) := by decide +kernel
theorem d1 : decode yB 1 = .ok (.aload_n 0, 1) := by decide +kernel
theorem d2 : decode yB 2 = .ok (.arraylength, 1) := by decide +kernel
theorem d3 : decode yB 3 = .ok (.isub, 1) := by decide +kernel
theorem d4 : decode yB 4 = .ok (.bipush 31, 2) := by decide +kernel
theorem d6 : decode yB 6 = .ok (.iushr, 1) := by decide +kernel
theorem d7 : decode yB 7 = .ok (.i2b, 1) := by decide +kernel
theorem d8 : decode yB 8 = .ok (.ireturn, 1) := by decide +kernel
def site : List Cond := []
def tab : Cond := tabOf yN yB 2 (some .byte) site
def P (d : Addr) (B : Cell) (args : Array Value) (s : State) : Prop := args = #[.ref d, .int (Int32.ofNat B.slots.size)] ∧ Arr .byte d B s
def E (r : Option Value) (s u : State) : Prop := XT.PureE (some (.int 0)) r s u
/-- an array as long as the number of chars: LATIN1 -/
theorem law (l : Launch) (d : Addr) (B : Cell) : Law l yN 2 2 0 0 yB 2 (some .byte) site (P d B) E [] 0 0 := by
  refine Law.of_walk (plainFor_of_name (by decide +kernel)) (by decide +kernel) (by decide +kernel) (by decide) (fun _ _ h => by rw [h.1]; rfl) (fun _ U U' hal hh h => ⟨h.1, h.2.mv hal hh⟩) (fun r U U' V V' h1 hal h2 h => XT.PureE.mv r U U' V V' h1 hal h2 h) ?_
  intro p e s m args below meth c s₁ X0 hexec hbytes hml hret hlk hnm hown hh0 W hP
  obtain ⟨rfl, hB⟩ := hP
  have hB0 := hB.mv X0.warmed.alike hh0
  have c1 : Steps p.tables e below (s₁.setTop (entryFrame m #[.ref d, .int (Int32.ofNat B.slots.size)] 2)) (s₁.setTop (mkF m 0 #[.val (.ref d), .val (.int (Int32.ofNat B.slots.size))] [])) := entry rfl
  have c2 : Steps p.tables e below (s₁.setTop (entryFrame m #[.ref d, .int (Int32.ofNat B.slots.size)] 2)) (s₁.setTop (mkF m 2 #[.val (.ref d), .val (.int (Int32.ofNat B.slots.size))] [.ref d, .int (Int32.ofNat B.slots.size)])) := c1.trans (by
    refine XS.iloadN X0.here hexec rfl (hb hbytes d0) rfl ?_
    refine XS.aloadN X0.here hexec rfl (hb hbytes d1) rfl rfl ?_
    exact Steps.refl _)
  have c3 : Steps p.tables e below (s₁.setTop (entryFrame m #[.ref d, .int (Int32.ofNat B.slots.size)] 2)) (s₁.setTop (mkF m 8 #[.val (.ref d), .val (.int (Int32.ofNat B.slots.size))] [.int (lo8 (ushr (Int32.ofNat B.slots.size - Int32.ofNat B.slots.size) 31))])) := c2.trans (by
    refine X0.alen hexec hB0 rfl rfl (hb hbytes d2) ?_
    refine XS.isub X0.here hexec rfl (hb hbytes d3) rfl ?_
    refine bipushV X0.here hexec rfl 31 (hb hbytes d4) (by decide) ?_
    refine iushr X0.here hexec rfl (hb hbytes d6) rfl ?_
    refine i2b X0.here hexec rfl (hb hbytes d7) rfl ?_
    exact Steps.refl _)
  have e0 : lo8 (ushr (Int32.ofNat B.slots.size - Int32.ofNat B.slots.size) 31) = 0 := by rw [Int32.sub_self]; decide
  rw [e0] at c3
  exact ⟨s₁, some (.int 0), _, _, _, X0, rfl, rfl, rfl, (fun h => by cases h), ⟨rfl, hh0⟩, fun fs hl => c3.trans (X0.ireturnOut hexec hret rfl (Or.inr (Or.inr (Or.inl rfl))) (hb hbytes d8) hl)⟩
end CodL
/-- the String at a is Latin-1 over a new byte[] (the heap's one new cell): the low bytes of the len chars of A from o on; every cell but a is kept -/
def Got (a : Addr) (D : Cell) (fV fC : Field) (A : Cell) (o len : Nat) (r : Option Value) (s u : State) : Prop := r = none ∧ ∃ D' V : Cell, Blank "java/lang/String" a D' u ∧ Same D D' [fV.slot, fC.slot] ∧ D'.slots[fV.slot]? = some (.ref s.heap.size) ∧ D'.slots[fC.slot]? = some (.int 0) ∧ Arr .byte s.heap.size V u ∧ V.vm = .none ∧ u.vm.findClass "[B" = some V.cls ∧ V.slots.size = len ∧ (∀ j, j < len → V.slots[j]? = some (.int (lo8 (cv A (o + j))))) ∧ (∀ (y : Addr) (c : Cell), y ≠ a → s.heap[y]? = some c → u.heap[y]? = some c) ∧ u.heap.size = s.heap.size + 1
theorem Got.mv {a : Addr} {D A : Cell} {fV fC : Field} {o len : Nat} : ∀ r (U U' V V' : State), U'.heap = U.heap → V.vm.Alike V'.vm → V'.heap = V.heap → Got a D fV fC A o len r U V → Got a D fV fC A o len r U' V' :=
  fun r U U' V V' h1 hal h2 ⟨e0, D', X, a1, a2, a3, a4, a5, a6, a7, a8, a9, a10, a11⟩ => ⟨e0, D', X, a1.mv hal h2, a2, by rw [h1]; exact a3, a4, by rw [h1]; exact a5.mv hal h2, a6, by rw [hal.findClass]; exact a7, a8, a9, by rw [h1, h2]; exact a10, by rw [h1, h2]; exact a11⟩
namespace New4
def yN : MethodName := ⟨"java/lang/String", "<init>", "([CIILjava/lang/Void;)V"⟩
abbrev yB : ByteArray := jdk_42_method_149_code
theorem d0 : decode yB 0 = .ok (.aload_n 0, 1) := by decide +kernel
theorem d1 : decode yB 1 = .ok (.invokespecial 1, 3) := by decide +kernel
theorem d4 : decode yB 4 = .ok (.iload_n 3, 1) := by decide +kernel
theorem d5 : decode yB 5 = .ok (.ifCond (.ne) 22, 3) := by decide +kernel
theorem d27 : decode yB 27 = .ok (.getstatic 38, 3) := by decide +kernel
theorem d30 : decode yB 30 = .ok (.ifCond (.eq) 28, 3) := by decide +kernel
theorem d33 : decode yB 33 = .ok (.aload_n 1, 1) := by decide +kernel
theorem d34 : decode yB 34 = .ok (.iload_n 2, 1) := by decide +kernel
theorem d35 : decode yB 35 = .ok (.iload_n 3, 1) := by decide +kernel
theorem d36 : decode yB 36 = .ok (.invokestatic 177, 3) := by decide +kernel
theorem d39 : decode yB 39 = .ok (.astore 5, 2) := by decide +kernel
theorem d41 : decode yB 41 = .ok (.aload_n 0, 1) := by decide +kernel
theorem d42 : decode yB 42 = .ok (.aload 5, 2) := by decide +kernel
theorem d44 : decode yB 44 = .ok (.iload_n 3, 1) := by decide +kernel
theorem d45 : decode yB 45 = .ok (.invokestatic 47, 3) := by decide +kernel
theorem d48 : decode yB 48 = .ok (.putfield 15, 3) := by decide +kernel
theorem d51 : decode yB 51 = .ok (.aload_n 0, 1) := by decide +kernel
theorem d52 : decode yB 52 = .ok (.aload 5, 2) := by decide +kernel
theorem d54 : decode yB 54 = .ok (.putfield 9, 3) := by decide +kernel
theorem d57 : decode yB 57 = .ok (.return_, 1) := by decide +kernel
def site : List Cond := [.fieldLink "java/lang/String" 38 "java/lang/String" "COMPACT_STRINGS" "Z", Cmp3.tab, CodL.tab, .laysFinal "java/lang/String" "java/lang/String" "value" "[B", .fieldLink "java/lang/String" 9 "java/lang/String" "value" "[B", .laysFinal "java/lang/String" "java/lang/String" "coder" "B", .fieldLink "java/lang/String" 15 "java/lang/String" "coder" "B"] ++ objW "java/lang/String" 1 ++ staticW "java/lang/String" 177 Cmp3.yN ++ staticW "java/lang/String" 47 CodL.yN
def tab : Cond := tabOf yN yB 6 none site
def P (a : Addr) (D : Cell) (fV fC : Field) (b : Addr) (A : Cell) (z : Int32) (o len : Nat) (args : Array Value) (s : State) : Prop := args = #[.ref a, .ref b, .int (Int32.ofNat o), .int (Int32.ofNat len), .null] ∧ Blank "java/lang/String" a D s ∧ Found "java/lang/String" "value" "[B" fV s ∧ Found "java/lang/String" "coder" "B" fC s ∧ Ch b A s ∧ StaticIs s "java/lang/String" "COMPACT_STRINGS" "Z" (.int z) ∧ ¬ z = 0 ∧ 0 < len ∧ o + len ≤ A.slots.size ∧ len ≤ 536870912 ∧ ∀ i, i < len → ¬ 255 < cv A (o + i)
def E (a : Addr) (D : Cell) (fV fC : Field) (A : Cell) (o len : Nat) (r : Option Value) (s u : State) : Prop := Got a D fV fC A o len r s u
/-- len > 0, no char of the range above 255: a Latin-1 String of their low bytes -/
theorem law (l : Launch) (a : Addr) (D : Cell) (fV fC : Field) (b : Addr) (A : Cell) (z : Int32) (o len : Nat) : Law l yN 5 4 2 35 yB 6 none site (P a D fV fC b A z o len) (E a D fV fC A o len) [⟨a, fC.slot⟩, ⟨a, fV.slot⟩] 1 len := by
  refine Law.of_walk (plainFor_of_name (by decide +kernel)) (by decide +kernel) (by decide +kernel) (by decide) (fun _ _ h => by rw [h.1]; rfl) (fun _ U U' hal hh h => ⟨h.1, h.2.1.mv hal hh, h.2.2.1.al hal, h.2.2.2.1.al hal, h.2.2.2.2.1.mv hal hh, h.2.2.2.2.2.1.there hal hh, h.2.2.2.2.2.2⟩) (fun r U U' V V' h1 hal h2 h => Got.mv r U U' V V' h1 hal h2 h) ?_
  intro p e s m args below meth c s₁ X0 hexec hbytes hml hret hlk hnm hown hh0 W hP
  obtain ⟨rfl, hB, f1, f2, hA, s1, hz, l0, l1, l2, hp⟩ := hP
  have a31 := hA.1.2.2.2
  have c1 : Steps p.tables e below (s₁.setTop (entryFrame m #[.ref a, .ref b, .int (Int32.ofNat o), .int (Int32.ofNat len), .null] 6)) (s₁.setTop (mkF m 0 #[.val (.ref a), .val (.ref b), .val (.int (Int32.ofNat o)), .val (.int (Int32.ofNat len)), .val .null, .unset] [])) := entry rfl
  have c2 : Steps p.tables e below (s₁.setTop (entryFrame m #[.ref a, .ref b, .int (Int32.ofNat o), .int (Int32.ofNat len), .null] 6)) (s₁.setTop (mkF m 1 #[.val (.ref a), .val (.ref b), .val (.int (Int32.ofNat o)), .val (.int (Int32.ofNat len)), .val .null, .unset] [.ref a])) := c1.trans (by
    refine XS.aloadN X0.here hexec rfl (hb hbytes d0) rfl rfl ?_
    exact Steps.refl _)
  obtain ⟨T3, X3, q3, st3⟩ := X0.oinit hexec hown (wks W (objW "java/lang/String" 1)) (g := (mkF m 1 #[.val (.ref a), .val (.ref b), .val (.int (Int32.ofNat o)), .val (.int (Int32.ofNat len)), .val .null, .unset] [.ref a])) rfl (by rw [hml]; rfl) (rest := []) rfl (hb hbytes d1) (W := 0) (by show 2 * 0 + 0 ≤ _; decide) (Nat.le_of_ble_eq_true rfl) (Nat.le_of_ble_eq_true rfl)
  have hh3 := q3.trans hh0
  have c4 : Steps p.tables e below (s₁.setTop (entryFrame m #[.ref a, .ref b, .int (Int32.ofNat o), .int (Int32.ofNat len), .null] 6)) (T3.setTop (mkF m 27 #[.val (.ref a), .val (.ref b), .val (.int (Int32.ofNat o)), .val (.int (Int32.ofNat len)), .val .null, .unset] [])) := (c2.trans (st3 _ (Steps.refl _))).trans (by
    refine XS.iloadN X3.here hexec rfl (hb hbytes d4) rfl ?_
    refine XS.ifYes X3.here hexec rfl (pc0 := 5) rfl (hb hbytes d5) rfl (i0_ne_t (nz32 (by omega) l0)) (by decide) rfl ?_
    exact Steps.refl _)
  obtain ⟨T5, X5, q5, st5⟩ := X3.sget hexec hown (wk W (.fieldLink "java/lang/String" 38 "java/lang/String" "COMPACT_STRINGS" "Z")) s1 (fun _ _ h => by rw [hh3]; exact h) (g := (mkF m 27 #[.val (.ref a), .val (.ref b), .val (.int (Int32.ofNat o)), .val (.int (Int32.ofNat len)), .val .null, .unset] [])) rfl (hb hbytes d27)
  have hh5 := q5.trans hh3
  have c6 : Steps p.tables e below (s₁.setTop (entryFrame m #[.ref a, .ref b, .int (Int32.ofNat o), .int (Int32.ofNat len), .null] 6)) (T5.setTop (mkF m 30 #[.val (.ref a), .val (.ref b), .val (.int (Int32.ofNat o)), .val (.int (Int32.ofNat len)), .val .null, .unset] [.int z])) := c4.trans (st5 _ (Steps.refl _))
  have c7 : Steps p.tables e below (s₁.setTop (entryFrame m #[.ref a, .ref b, .int (Int32.ofNat o), .int (Int32.ofNat len), .null] 6)) (T5.setTop (mkF m 36 #[.val (.ref a), .val (.ref b), .val (.int (Int32.ofNat o)), .val (.int (Int32.ofNat len)), .val .null, .unset] [.int (Int32.ofNat len), .int (Int32.ofNat o), .ref b])) := c6.trans (by
    refine XS.ifNo X5.here hexec rfl (hb hbytes d30) rfl (i0_eq_f hz) ?_
    refine XS.aloadN X5.here hexec rfl (hb hbytes d33) rfl rfl ?_
    refine XS.iloadN X5.here hexec rfl (hb hbytes d34) rfl ?_
    refine XS.iloadN X5.here hexec rfl (hb hbytes d35) rfl ?_
    exact Steps.refl _)
  obtain ⟨v8, T8, X8, E8, g8⟩ := X5.callS hexec (Cmp3.law l b A o len) hown (wks W (staticW "java/lang/String" 177 Cmp3.yN)) (wk W Cmp3.tab) (W := 0) (Nat.le_of_ble_eq_true rfl) (Nat.le_of_ble_eq_true rfl) (Nat.le_refl _) (by show 0 + len ≤ len; omega) (g := (mkF m 36 #[.val (.ref a), .val (.ref b), .val (.int (Int32.ofNat o)), .val (.int (Int32.ofNat len)), .val .null, .unset] [.int (Int32.ofNat len), .int (Int32.ofNat o), .ref b])) rfl (by rw [hml]; rfl) c7 (argsL := [.ref b, .int (Int32.ofNat o), .int (Int32.ofNat len)]) (rest := []) rfl rfl (by show 2 * 0 + 0 ≤ _; decide) (hb hbytes d36) (⟨rfl, hA.mv X5.warmed.alike hh5, l1, l2, hp⟩)
  obtain ⟨e8, z8⟩ := E8
  obtain ⟨rfl, N, n1, n2, n3, n4, n5, n6⟩ := NewArr.mv _ T5 s _ _ hh5.symm (Vm.Alike.refl _) rfl e8
  rw [hh5] at z8
  have hB1 := hB.keep X8.warmed.alike (n6 _ _ hB.1)
  have hne : s.heap.size ≠ a := (Nat.ne_of_lt (Array.getElem?_eq_some_iff.mp hB.1).1).symm
  have c9 : Steps p.tables e below (s₁.setTop (entryFrame m #[.ref a, .ref b, .int (Int32.ofNat o), .int (Int32.ofNat len), .null] 6)) (T8.setTop (mkF m 39 #[.val (.ref a), .val (.ref b), .val (.int (Int32.ofNat o)), .val (.int (Int32.ofNat len)), .val .null, .unset] [.ref s.heap.size])) := g8
  have c10 : Steps p.tables e below (s₁.setTop (entryFrame m #[.ref a, .ref b, .int (Int32.ofNat o), .int (Int32.ofNat len), .null] 6)) (T8.setTop (mkF m 45 #[.val (.ref a), .val (.ref b), .val (.int (Int32.ofNat o)), .val (.int (Int32.ofNat len)), .val .null, .val (.ref s.heap.size)] [.int (Int32.ofNat N.slots.size), .ref s.heap.size, .ref a])) := by
    have hc : Steps p.tables e below (s₁.setTop (entryFrame m #[.ref a, .ref b, .int (Int32.ofNat o), .int (Int32.ofNat len), .null] 6)) (T8.setTop (mkF m 45 #[.val (.ref a), .val (.ref b), .val (.int (Int32.ofNat o)), .val (.int (Int32.ofNat len)), .val .null, .val (.ref s.heap.size)] [.int (Int32.ofNat len), .ref s.heap.size, .ref a])) := c9.trans (by
      refine XS.astore X8.here hexec rfl (hb hbytes d39) rfl rfl rfl ?_
      refine XS.aloadN X8.here hexec rfl (hb hbytes d41) rfl rfl ?_
      refine XS.aload X8.here hexec rfl (hb hbytes d42) rfl rfl ?_
      refine XS.iloadN X8.here hexec rfl (hb hbytes d44) rfl ?_
      exact Steps.refl _)
    rw [n4]; exact hc
  obtain ⟨v11, T11, X11, E11, g11⟩ := X8.callS hexec (CodL.law l s.heap.size N) hown (wks W (staticW "java/lang/String" 47 CodL.yN)) (wk W CodL.tab) (W := 1) (Nat.le_of_ble_eq_true rfl) (Nat.le_of_ble_eq_true rfl) (Nat.le_refl _) (by show 0 + len + 0 ≤ len; omega) (g := (mkF m 45 #[.val (.ref a), .val (.ref b), .val (.int (Int32.ofNat o)), .val (.int (Int32.ofNat len)), .val .null, .val (.ref s.heap.size)] [.int (Int32.ofNat N.slots.size), .ref s.heap.size, .ref a])) rfl (by rw [hml]; rfl) c10 (argsL := [.ref s.heap.size, .int (Int32.ofNat N.slots.size)]) (rest := [.ref a]) rfl rfl (by show 2 * 0 + (1 + 0) ≤ _; decide) (hb hbytes d45) (⟨rfl, n1⟩)
  obtain ⟨rfl, q11⟩ := E11
  have hB11 := hB1.mv (X8.warmed.alike.symm.trans X11.warmed.alike) q11
  have c12 : Steps p.tables e below (s₁.setTop (entryFrame m #[.ref a, .ref b, .int (Int32.ofNat o), .int (Int32.ofNat len), .null] 6)) (T11.setTop (mkF m 48 #[.val (.ref a), .val (.ref b), .val (.int (Int32.ofNat o)), .val (.int (Int32.ofNat len)), .val .null, .val (.ref s.heap.size)] [.int 0, .ref a])) := g11
  obtain ⟨T13, X13, p13, bl13, sl13, st13⟩ := X11.finit hexec hown (wk W (.fieldLink "java/lang/String" 15 "java/lang/String" "coder" "B")) (Or.inr ⟨_, (wk W (.laysFinal "java/lang/String" "java/lang/String" "coder" "B"))⟩) (Or.inl ⟨rfl, hnm⟩) f2 (Or.inl rfl) hB11 (t := .byte) (by decide +kernel) rfl (g := (mkF m 48 #[.val (.ref a), .val (.ref b), .val (.int (Int32.ofNat o)), .val (.int (Int32.ofNat len)), .val .null, .val (.ref s.heap.size)] [.int 0, .ref a])) rfl (rest := []) rfl (hb hbytes d48)
  have c14 : Steps p.tables e below (s₁.setTop (entryFrame m #[.ref a, .ref b, .int (Int32.ofNat o), .int (Int32.ofNat len), .null] 6)) (T13.setTop (mkF m 54 #[.val (.ref a), .val (.ref b), .val (.int (Int32.ofNat o)), .val (.int (Int32.ofNat len)), .val .null, .val (.ref s.heap.size)] [.ref s.heap.size, .ref a])) := (c12.trans (st13 _ (Steps.refl _))).trans (by
    refine XS.aloadN X13.here hexec rfl (hb hbytes d51) rfl rfl ?_
    refine XS.aload X13.here hexec rfl (hb hbytes d52) rfl rfl ?_
    exact Steps.refl _)
  obtain ⟨T15, X15, p15, bl15, sl15, st15⟩ := X13.finit hexec hown (wk W (.fieldLink "java/lang/String" 9 "java/lang/String" "value" "[B")) (Or.inr ⟨_, (wk W (.laysFinal "java/lang/String" "java/lang/String" "value" "[B"))⟩) (Or.inl ⟨rfl, hnm⟩) f1 (Or.inl rfl) bl13 (t := (.array .byte)) (by decide +kernel) rfl (g := (mkF m 54 #[.val (.ref a), .val (.ref b), .val (.int (Int32.ofNat o)), .val (.int (Int32.ofNat len)), .val .null, .val (.ref s.heap.size)] [.ref s.heap.size, .ref a])) rfl (rest := []) rfl (hb hbytes d54)
  have c16 : Steps p.tables e below (s₁.setTop (entryFrame m #[.ref a, .ref b, .int (Int32.ofNat o), .int (Int32.ofNat len), .null] 6)) (T15.setTop (mkF m 57 #[.val (.ref a), .val (.ref b), .val (.int (Int32.ofNat o)), .val (.int (Int32.ofNat len)), .val .null, .val (.ref s.heap.size)] [])) := c14.trans (st15 _ (Steps.refl _))
  have ap := apart (Or.inr ⟨_, (wk W (.laysFinal "java/lang/String" "java/lang/String" "value" "[B"))⟩) (Or.inr ⟨_, (wk W (.laysFinal "java/lang/String" "java/lang/String" "coder" "B"))⟩) f1 f2 (t₁ := .array .byte) (t₂ := .byte) (by decide +kernel) (by decide +kernel) (by decide)
  have al := X8.warmed.alike.symm.trans X15.warmed.alike
  have n7 : T11.heap[s.heap.size]? = some N := by rw [q11]; exact n1.1
  exact ⟨T15, none, _, _, _, X15, by simp, rfl, by omega, (fun _ => rfl), ⟨rfl, _, N, bl15, ((Same.refl D _).set _ (by simp)).set _ (by simp), sl15, (Cell.slots_setSlot_ne _ ap).trans sl13, n1.keep al (p15.other hne (p13.other hne n7)), n2, by rw [al.findClass]; exact n3, n4, n5, fun y c h1 h2 => p15.other h1 (p13.other h1 (by rw [q11]; exact n6 y c h2)), by rw [p15.2.2, p13.2.2, q11]; exact z8⟩, fun fs hl => c16.trans (X15.returnOut hexec hret (hb hbytes d57) hl)⟩
end New4
namespace New1
def yN : MethodName := ⟨"java/lang/String", "<init>", "([C)V"⟩
abbrev yB : ByteArray := jdk_42_method_3_code
theorem d0 : decode yB 0 = .ok (.aload_n 0, 1) := by decide +kernel
theorem d1 : decode yB 1 = .ok (.aload_n 1, 1) := by decide +kernel
theorem d2 : decode yB 2 = .ok (.iconst 0, 1) := by decide +kernel
theorem d3 : decode yB 3 = .ok (.aload_n 1, 1) := by decide +kernel
theorem d4 : decode yB 4 = .ok (.arraylength, 1) := by decide +kernel
theorem d5 : decode yB 5 = .ok (.aconst_null, 1) := by decide +kernel
theorem d6 : decode yB 6 = .ok (.invokespecial 27, 3) := by decide +kernel
theorem d9 : decode yB 9 = .ok (.return_, 1) := by decide +kernel
def site : List Cond := [New4.tab] ++ initW "java/lang/String" 27 New4.yN
def tab : Cond := tabOf yN yB 2 none site
def P (a : Addr) (D : Cell) (fV fC : Field) (b : Addr) (A : Cell) (z : Int32) (args : Array Value) (s : State) : Prop := args = #[.ref a, .ref b] ∧ Blank "java/lang/String" a D s ∧ Found "java/lang/String" "value" "[B" fV s ∧ Found "java/lang/String" "coder" "B" fC s ∧ Ch b A s ∧ StaticIs s "java/lang/String" "COMPACT_STRINGS" "Z" (.int z) ∧ ¬ z = 0 ∧ 0 < A.slots.size ∧ A.slots.size ≤ 536870912 ∧ ∀ i, i < A.slots.size → ¬ 255 < cv A i
def E (a : Addr) (D : Cell) (fV fC : Field) (A : Cell) (r : Option Value) (s u : State) : Prop := Got a D fV fC A 0 A.slots.size r s u
/-- new String(chars), not empty, no char above 255: a Latin-1 String of their low bytes -/
theorem law (l : Launch) (a : Addr) (D : Cell) (fV fC : Field) (b : Addr) (A : Cell) (z : Int32) : Law l yN 2 1 3 52 yB 2 none site (P a D fV fC b A z) (E a D fV fC A) [⟨a, fC.slot⟩, ⟨a, fV.slot⟩] 1 A.slots.size := by
  refine Law.of_walk (plainFor_of_name (by decide +kernel)) (by decide +kernel) (by decide +kernel) (by decide) (fun _ _ h => by rw [h.1]; rfl) (fun _ U U' hal hh h => ⟨h.1, h.2.1.mv hal hh, h.2.2.1.al hal, h.2.2.2.1.al hal, h.2.2.2.2.1.mv hal hh, h.2.2.2.2.2.1.there hal hh, h.2.2.2.2.2.2⟩) (fun r U U' V V' h1 hal h2 h => Got.mv r U U' V V' h1 hal h2 h) ?_
  intro p e s m args below meth c s₁ X0 hexec hbytes hml hret hlk hnm hown hh0 W hP
  obtain ⟨rfl, hB, f1, f2, hA, s1, hz, l0, l2, hp⟩ := hP
  have c1 : Steps p.tables e below (s₁.setTop (entryFrame m #[.ref a, .ref b] 2)) (s₁.setTop (mkF m 0 #[.val (.ref a), .val (.ref b)] [])) := entry rfl
  have c2 : Steps p.tables e below (s₁.setTop (entryFrame m #[.ref a, .ref b] 2)) (s₁.setTop (mkF m 6 #[.val (.ref a), .val (.ref b)] [.null, .int (Int32.ofNat A.slots.size), .int 0, .ref b, .ref a])) := c1.trans (by
    refine XS.aloadN X0.here hexec rfl (hb hbytes d0) rfl rfl ?_
    refine XS.aloadN X0.here hexec rfl (hb hbytes d1) rfl rfl ?_
    refine iconstV X0.here hexec rfl 0 (hb hbytes d2) (by decide) ?_
    refine XS.aloadN X0.here hexec rfl (hb hbytes d3) rfl rfl ?_
    refine X0.alen hexec (hA.1.mv X0.warmed.alike hh0) rfl rfl (hb hbytes d4) ?_
    refine XS.aconstNull X0.here hexec rfl (hb hbytes d5) ?_
    exact Steps.refl _)
  obtain ⟨v3, T3, X3, E3, g3⟩ := X0.callN hexec (New4.law l a D fV fC b A z 0 A.slots.size) rfl hown (wks W (initW "java/lang/String" 27 New4.yN)) (W New4.tab (by simp only [site, List.mem_cons, List.mem_append, true_or, or_true])) (W := 0) (Nat.le_of_ble_eq_true rfl) (Nat.le_of_ble_eq_true rfl) (Nat.le_refl _) (by show 0 + A.slots.size ≤ A.slots.size; omega) (g := (mkF m 6 #[.val (.ref a), .val (.ref b)] [.null, .int (Int32.ofNat A.slots.size), .int (Int32.ofNat 0), .ref b, .ref a])) rfl (by rw [hml]; rfl) c2 (argsL := [.ref b, .int (Int32.ofNat 0), .int (Int32.ofNat A.slots.size), .null]) (rest := []) rfl rfl (by show 2 * 0 + 0 ≤ _; decide) (hb hbytes d6) (⟨rfl, hB.mv X0.warmed.alike hh0, f1.al X0.warmed.alike, f2.al X0.warmed.alike, hA.mv X0.warmed.alike hh0, s1.there X0.warmed.alike hh0, hz, l0, by omega, l2, fun i hi => by rw [Nat.zero_add]; exact hp i hi⟩)
  have e0 := Got.mv _ s₁ s _ _ hh0.symm (Vm.Alike.refl _) rfl E3
  obtain rfl := e0.1
  have c4 : Steps p.tables e below (s₁.setTop (entryFrame m #[.ref a, .ref b] 2)) (T3.setTop (mkF m 9 #[.val (.ref a), .val (.ref b)] [])) := g3
  exact ⟨T3, none, _, _, _, X3, by simp, rfl, by omega, (fun _ => rfl), e0, fun fs hl => c4.trans (X3.returnOut hexec hret (hb hbytes d9) hl)⟩
theorem pays {l : Launch} {R : Room} {p : Program} {e : Env} {below : List Frame} {s : State} {sargs : Array Value} {len W : Nat} (a : Addr) (D : Cell) (fV fC : Field) (b : Addr) (A : Cell) (z : Int32) (htab : tab.before sargs s = true) (hfr : 4 ≤ R.frames) (hlo : W + 65 ≤ R.locals) :
    Back l R p e below s sargs yN len W (fun A₁ a₁ => A₁.cells + 1 ≤ R.cells ∧ A₁.slots + A.slots.size ≤ R.slots ∧ P a D fV fC b A z a₁ A₁.U) (fun A₁ _ v₁ B₁ => E a D fV fC A v₁ A₁.U B₁.U ∧ B₁.locs = A₁.locs ++ [⟨a, fC.slot⟩, ⟨a, fV.slot⟩] ∧ B₁.cells = A₁.cells + 1 ∧ B₁.slots = A₁.slots + A.slots.size) :=
  (law l a D fV fC b A z).pays htab hfr (by omega)
end New1
/-- the byte, read back as charAt reads it, is the char -/
theorem lo8_mask {x : Int32} (h0 : ¬ x < 0) (h1 : ¬ 255 < x) : lo8 x &&& 255 = x := by
  have t : ∀ k : Fin 256, lo8 (Int32.ofNat k.val) &&& 255 = Int32.ofNat k.val := by decide +kernel
  rw [Int32.lt_iff_toInt_lt] at h0 h1
  have e0 : (0 : Int32).toInt = 0 := rfl
  have e1 : (255 : Int32).toInt = 255 := rfl
  obtain ⟨k, hk⟩ : ∃ k : Nat, x.toInt = k := ⟨x.toInt.toNat, by omega⟩
  have hx : x = Int32.ofNat k := Int32.toInt_inj.mp (by rw [hk, Int32.toInt_ofNat_small (by omega)])
  rw [hx]
  exact t ⟨k, by omega⟩
end StrChars
namespace StrChars.Road
open Jvm Sem ClassFile Op Lib Jvm.Stand Jvm.Free Jvm.Free.XT
open Jvm.Lib.Cold (StaticIs)
abbrev ST : String := "java/lang/String"
/-- every table word that New1's law asks, flat -/
abbrev words : List Jvm.Cond := [.code New1.yN New1.yB 2 none, .initialized ST, .methodLink ST 27 New4.yN, .instanceMethod New4.yN,
  .code New4.yN New4.yB 6 none, .fieldLink ST 38 ST "COMPACT_STRINGS" "Z", .laysFinal ST ST "value" "[B", .fieldLink ST 9 ST "value" "[B", .laysFinal ST ST "coder" "B", .fieldLink ST 15 ST "coder" "B",
  .methodLink ST 1 Lib.objectInit, .instanceMethod Lib.objectInit, .code Lib.objectInit ⟨#[0xb1]⟩ 1 none, .methodLink ST 177 Cmp3.yN, .static Cmp3.yN, .methodLink ST 47 CodL.yN, .static CodL.yN,
  .code Cmp3.yN Cmp3.yB 6 (some (.array .byte)), .initialized U16, .arrayClass .byte, .methodLink U16 115 Cmp5.yN, .static Cmp5.yN, .code Cmp5.yN Cmp5.yB 7 (some .int), .code CodL.yN CodL.yB 2 (some .byte)]
theorem tab_of {a : Array Value} {s : State} (h : ∀ w ∈ words, w.before a s = true) : New1.tab.before a s = true := by
  have h5 : Cmp5.tab.before a s = true := unparts (wk h (.code Cmp5.yN Cmp5.yB 7 (some .int))) (wks h (.initialized Cmp5.yN.cls :: Cmp5.site))
  have hc : CodL.tab.before a s = true := unparts (wk h (.code CodL.yN CodL.yB 2 (some .byte))) (wks h (.initialized CodL.yN.cls :: CodL.site))
  have q5 : ∀ w ∈ Cmp5.tab :: words, w.before a s = true := fun w hw => (List.mem_cons.mp hw).elim (fun e => e ▸ h5) (h w)
  have h3 : Cmp3.tab.before a s = true := unparts (wk q5 (.code Cmp3.yN Cmp3.yB 6 (some (.array .byte)))) (wks q5 (.initialized Cmp3.yN.cls :: Cmp3.site))
  have q3 : ∀ w ∈ Cmp3.tab :: CodL.tab :: words, w.before a s = true := fun w hw => (List.mem_cons.mp hw).elim (fun e => e ▸ h3) fun hw => (List.mem_cons.mp hw).elim (fun e => e ▸ hc) (h w)
  have h4 : New4.tab.before a s = true := unparts (wk q3 (.code New4.yN New4.yB 6 none)) (wks q3 (.initialized New4.yN.cls :: New4.site))
  have q4 : ∀ w ∈ New4.tab :: words, w.before a s = true := fun w hw => (List.mem_cons.mp hw).elim (fun e => e ▸ h4) (h w)
  exact unparts (wk q4 (.code New1.yN New1.yB 2 none)) (wks q4 (.initialized New1.yN.cls :: New1.site))
/-- the words ride from the start Z to the walk's own state -/
theorem moved {Z s : State} {a0 args : Array Value} (hZ : Z.Warmed39 s.vm) (hw : ∀ d ∈ words, d.before a0 Z = true) : ∀ d ∈ words, d.before args s = true := fun d hd => by
  have q := hw d hd
  have t : ∀ d ∈ words, d = .arrayClass .byte ∨ (d.onTables && d.keepsFace) = true := by decide +kernel
  rcases t d hd with rfl | t
  · exact RoadKit.mvA hZ q
  · exact RoadKit.mv hZ q t
/-- WHAT COMES BACK, over the tables of the start Z: h the heap at the call, h' behind it -/
def Q (Z : State) (x : Addr) (A : Cell) (h : Heap) (v : Option Value) (h' : Heap) (L : List Loc) : Prop := v = none ∧ (∀ y ∈ L, y.base = x) ∧ RoadKit.Keep h h' [x] ∧ h'.size = h.size + 1 ∧ RoadKit.Exa Z h' x ST ∧ RoadKit.Fld Z h' x ST "value" "[B" (.ref h.size) ∧ RoadKit.Fld Z h' x ST "coder" "B" (.int 0) ∧
  (∃ V : Cell, RoadKit.Arr Z h' h.size V .byte ∧ V.vm = .none ∧ Z.vm.findClass "[B" = some V.cls ∧ V.slots.size = A.slots.size ∧ ∀ j, j < A.slots.size → V.slots[j]? = some (.int (lo8 (cv A j)))) ∧
  ∀ (O n d : String) (w : Value), RoadKit.Fld Z h x O n d w → RoadKit.slotOf Z O n d ≠ RoadKit.slotOf Z ST "value" "[B" → RoadKit.slotOf Z O n d ≠ RoadKit.slotOf Z ST "coder" "B" → RoadKit.Fld Z h' x O n d w
/-- **new String(chars) AT A CALL, IN THE ROAD'S FORM**: for specialBack behind newO: x the fresh String, b the char[] with the cell A -/
theorem back {p : Program} {l : Launch} {e : Env} {R : Room} {s : State} {args : Array Value} {below : List Frame} {len W : Nat} {Z : State} {a0 : Array Value} {h : Heap} (hZ : Z.Warmed39 s.vm) (hw : ∀ d ∈ words, d.before a0 Z = true) {kI : Nat} (wi : (Jvm.Cond.instantiable ST kI).before a0 Z = true)
    {x b : Addr} {A : Cell} {z : Int32} {v0 c0 : Value} (E : RoadKit.Exa Z h x ST) (V : RoadKit.Fld Z h x ST "value" "[B" v0) (C : RoadKit.Fld Z h x ST "coder" "B" c0) (K : RoadKit.Arr Z h b A .char) (hty : Typed .char A) (S : RoadKit.Sta Z h ST "COMPACT_STRINGS" "Z" (.int z)) (hz : ¬ z = 0)
    (l0 : 0 < A.slots.size) (l2 : A.slots.size ≤ 536870912) (hp : ∀ i, i < A.slots.size → ¬ 255 < cv A i) (hfr : 4 ≤ R.frames) (hlo : W + 65 ≤ R.locals) :
    Back l R p e below s args New1.yN len W (fun P a => a = #[.ref x, .ref b] ∧ P.U.heap = h ∧ P.cells + 1 ≤ R.cells ∧ P.slots + A.slots.size ≤ R.slots)
      (fun P _ v B => ∃ L, Q Z x A h v B.U.heap L ∧ B.locs = P.locs ++ L ∧ B.cells = P.cells + 1 ∧ B.slots = P.slots + A.slots.size) := by
  intro m meth c P g ig mk a X hg hsize hdg hW hn hp'
  obtain ⟨rfl, rfl, r1, r2⟩ := hp'
  have al : Z.vm.Alike P.U.vm := hZ.alike.trans X.warmed.alike
  obtain ⟨D, cfV, kV, iV, fV, hD, gV, stV, knV, obV, asV, slV⟩ := id V
  obtain ⟨D', cfC, kC, iC, fC, hD', gC, stC, -, -, asC, slC⟩ := id C
  cases hD.symm.trans hD'
  obtain ⟨D2, kD, e1, e2, e3, e4, e5⟩ := id E
  cases hD.symm.trans e1
  obtain ⟨c2, k2, i1, i2, i3, -⟩ := Cond.instantiable_spec wi
  cases e2.symm.trans i1
  cases e3.symm.trans i2
  obtain ⟨kU, u1, u2⟩ := al.2.2 _ _ e3
  have hB : Blank ST x D P.U := ⟨hD, ⟨knV, fun q hq => by rw [hq] at obV; cases obV⟩, by rw [al.findClass]; exact e2, kU, u1, by rw [u2]; exact i3, by rw [u2]; exact e5 i3⟩
  have F1 : Found ST "value" "[B" fV P.U := ⟨SBG.found_only al ⟨cfV, kV, iV, gV⟩, stV⟩
  have F2 : Found ST "coder" "B" fC P.U := ⟨SBG.found_only al ⟨cfC, kC, iC, gC⟩, stC⟩
  have hA : Ch b A P.U := ⟨⟨K.1, State.isArrayOf_alike al K.2.1, K.2.2, by omega⟩, hty⟩
  have hS : StaticIs P.U ST "COMPACT_STRINGS" "Z" (.int z) := by
    obtain ⟨cfS, iS, kS, fS, st, cS, t1, t2, t3, t4, t5, t6, t7⟩ := S
    exact StaticIs.there (s := { Z with heap := P.U.heap }) ⟨cfS, iS, kS, fS, st, cS, t1, t2, t3, t4, t5, (fun q => by rw [q] at t6; cases t6), t7⟩ al rfl
  obtain ⟨v, B, X', ⟨⟨hv, E', V', q1, q2, q3, q4, q5, q6, q7, q8, q9, q10, q11⟩, hl, hc, hs⟩, st⟩ := New1.pays x D fV fC b A z (tab_of (moved hZ hw)) hfr hlo m meth c P g ig mk _ X hg hsize hdg hW hn ⟨r1, r2, rfl, hB, F1, F2, hA, hS, hz, l0, l2, hp⟩
  have al' : Z.vm.Alike B.U.vm := hZ.alike.trans X'.warmed.alike
  have hsz : E'.slots.size = D.slots.size := by
    obtain ⟨-, -, -, kB, w1, w2, w3⟩ := q1
    obtain ⟨kB', y1, y2⟩ := al'.2.2 _ _ e3
    rw [q2.2.1] at w1
    cases w1.symm.trans y1
    rw [w3, e5 i3, y2]
  refine ⟨v, B, X', ⟨_, ⟨hv, ?_, ⟨by omega, fun y cy hy hn' => q10 y cy (by simpa using hn') hy, fun y cy hy => ?_⟩, q11, ⟨E', _, q1.1, by rw [q2.2.1]; exact e2, by rw [q2.2.1]; exact e3, by rw [q2.1]; exact obV, fun _ => by rw [hsz]; exact e5 i3⟩,
    ⟨E', cfV, kV, iV, fV, q1.1, gV, stV, by rw [q2.1]; exact knV, by rw [q2.1]; exact obV, by rw [q2.2.1]; exact asV, q3⟩, ⟨E', cfC, kC, iC, fC, q1.1, gC, stC, by rw [q2.1]; exact knV, by rw [q2.1]; exact obV, by rw [q2.2.1]; exact asC, q4⟩,
    ⟨V', ⟨q5.1, State.isArrayOf_alike al'.symm q5.2.1, q5.2.2.1⟩, q6, by rw [← al'.findClass]; exact q7, q8, fun j hj => by have := q9 j hj; rwa [Nat.zero_add] at this⟩, fun O n d w F n1 n2 => ?_⟩, hl, hc, hs⟩, st⟩
  · intro y hy
    simp only [List.mem_cons, List.not_mem_nil, or_false] at hy
    rcases hy with rfl | rfl <;> rfl
  · by_cases q : y = x
    · subst q
      cases hD.symm.trans hy
      exact ⟨E', q1.1, q2.2.1, q2.1, hsz⟩
    · exact ⟨cy, q10 y cy q hy, rfl, rfl, rfl⟩
  · obtain ⟨D3, cf, k, i, f, g1, g2, g3, g4, g5, g6, g7⟩ := F
    cases hD.symm.trans g1
    simp only [RoadKit.slotOf, g2, gV, gC, Option.map_some, Option.getD_some] at n1 n2
    exact ⟨E', cf, k, i, f, q1.1, g2, g3, by rw [q2.1]; exact g4, by rw [q2.1]; exact g5, by rw [q2.2.1]; exact g6, by rw [q2.2.2 f.slot (by simp [n1, n2])]; exact g7⟩
end StrChars.Road
namespace StrChars.Road
open Jvm Sem ClassFile Op Lib Jvm.Stand Jvm.Free Jvm.Free.XT
/-- WHAT COMES BACK, the byte[] as a list of values -/
def QA (Z : State) (x : Addr) (zn : Int32) (cs : List Int32) (h : Heap) (v : Option Value) (h' : Heap) (L : List Loc) : Prop := v = none ∧ (∀ y ∈ L, y.base = x) ∧ RoadKit.Keep h h' [x] ∧ h'.size = h.size + 1 ∧ RoadKit.Exa Z h' x ST ∧ RoadKit.Fld Z h' x ST "value" "[B" (.ref h.size) ∧ RoadKit.Fld Z h' x ST "coder" "B" (.int 0) ∧
  (∃ kb, Z.vm.findClass "[B" = some kb ∧ RoadKit.Arv Z h' h.size kb .byte zn (cs.map fun c => .int (lo8 c)) (.int 0)) ∧
  ∀ (O n d : String) (w : Value), RoadKit.Fld Z h x O n d w → RoadKit.slotOf Z O n d ≠ RoadKit.slotOf Z ST "value" "[B" → RoadKit.slotOf Z O n d ≠ RoadKit.slotOf Z ST "coder" "B" → RoadKit.Fld Z h' x O n d w
/-- **new String(chars) AT A CALL, THE ARRAYS AS LISTS**: the char[] at b holds cs, not empty, no char above 255 -/
theorem backArv {p : Program} {l : Launch} {e : Env} {R : Room} {s : State} {args : Array Value} {below : List Frame} {len W : Nat} {Z : State} {a0 : Array Value} {h : Heap} (hZ : Z.Warmed39 s.vm) (hw : ∀ d ∈ words, d.before a0 Z = true) {kI : Nat} (wi : (Jvm.Cond.instantiable ST kI).before a0 Z = true)
    {x b : Addr} {k : ClassId} {zn z : Int32} {cs : List Int32} {dv v0 c0 : Value} (E : RoadKit.Exa Z h x ST) (V : RoadKit.Fld Z h x ST "value" "[B" v0) (C : RoadKit.Fld Z h x ST "coder" "B" c0) (K : RoadKit.Arv Z h b k .char zn (cs.map Value.int) dv) (S : RoadKit.Sta Z h ST "COMPACT_STRINGS" "Z" (.int z)) (hz : ¬ z = 0)
    (hlen : zn.toNatClampNeg = cs.length) (h0 : 0 < cs.length) (hbig : cs.length ≤ 536870912) (hall : ∀ c ∈ cs, ¬ 255 < c) (hfr : 4 ≤ R.frames) (hlo : W + 65 ≤ R.locals) :
    Back l R p e below s args New1.yN len W (fun P a => a = #[.ref x, .ref b] ∧ P.U.heap = h ∧ P.cells + 1 ≤ R.cells ∧ P.slots + cs.length ≤ R.slots)
      (fun P _ v B => ∃ L, QA Z x zn cs h v B.U.heap L ∧ B.locs = P.locs ++ L ∧ B.cells = P.cells + 1 ∧ B.slots = P.slots + cs.length) := by
  obtain ⟨A, K1, K2, K3, K4, K5, K6⟩ := K
  have e : A.slots.size = cs.length := K3.trans hlen
  have hat : ∀ (i : Nat) (hi : i < cs.length), A.slots[i]? = some (.int cs[i]) := fun i hi => by rw [K5 i (by omega)]; simp [List.getD_eq_getElem?_getD, hi]
  have hcv : ∀ (i : Nat) (hi : i < cs.length), cv A i = cs[i] := fun i hi => by unfold cv; rw [hat i hi]
  have hty : Typed .char A := fun i v hv => by
    have hi : i < A.slots.size := (Array.getElem?_eq_some_iff.mp hv).1
    have q := K5 i hi
    rw [hv] at q
    rw [Option.some.inj q]
    exact K6 i hi
  refine Back.mono (back hZ hw wi E V C K1 hty S hz (by omega) (by omega) (fun i hi => by rw [hcv i (by omega)]; exact hall _ (List.getElem_mem _)) hfr hlo) (fun P a hp => ⟨hp.1, hp.2.1, hp.2.2.1, by rw [e]; exact hp.2.2.2⟩) (fun P a v B hp hq => ?_)
  obtain ⟨L, ⟨q1, q2, q3, q4, q5, q6, q7, ⟨V', v1, v2, v3, v4, v5⟩, q9⟩, hl, hc, hs⟩ := hq
  refine ⟨L, ⟨q1, q2, q3, q4, q5, q6, q7, ⟨V'.cls, v3, V', v1, rfl, by rw [v4, e, hlen], K4, fun i hi => ?_, fun i hi => ?_⟩, q9⟩, hl, hc, by rw [hs, e]⟩
  · have hi' : i < cs.length := by omega
    rw [v5 i (by omega), hcv i hi']; simp [List.getD_eq_getElem?_getD, hi']
  · have hi' : i < cs.length := by omega
    simp only [List.getD_eq_getElem?_getD, List.getElem?_map, List.getElem?_eq_getElem hi', Option.map_some, Option.getD_some]
    exact fits_lo8 _
end StrChars.Road
namespace StrChars.Road
open Jvm Sem ClassFile Op Lib Jvm.Stand Jvm.Free Jvm.Free.XT
/-- WHAT COMES BACK, in the writer's own shape -/
def QV (Z : State) (x : Addr) (N : Int32) (bs : List Int32) (h : Heap) (n0 : Nat) (v : Option Value) (h' : Heap) (L : List Loc) : Prop := v = none ∧ RoadKit.Fr n0 L ∧ RoadKit.Keep h h' [x] ∧ RoadKit.Exa Z h' x ST ∧ RoadKit.Fld Z h' x ST "coder" "B" (.int 0) ∧
  ∃ (t : Addr) (kb : ClassId), n0 ≤ t ∧ h.size ≤ t ∧ ¬ t = x ∧ RoadKit.Fld Z h' x ST "value" "[B" (.ref t) ∧ RoadKit.Arv Z h' t kb .byte N (bs.map Value.int) (.int 0)
/-- **new String(chars) AT A CALL, FOR THE WRITER**: a char[] of n known ints, each 0 to 255 -/
theorem backV {p : Program} {l : Launch} {e : Env} {R : Room} {s : State} {args : Array Value} {below : List Frame} {len W : Nat} {Z : State} {a0 : Array Value} {h : Heap} (hZ : Z.Warmed39 s.vm) (hw : ∀ d ∈ words, d.before a0 Z = true) {kI : Nat} (wi : (Jvm.Cond.instantiable ST kI).before a0 Z = true)
    {x b : Addr} {kC : ClassId} {cs bs : List Int32} {d v0 c0 : Value} {z N : Int32} {n n0 : Nat} (hx0 : n0 ≤ x) (hh0 : n0 ≤ h.size) (E : RoadKit.Exa Z h x ST) (V : RoadKit.Fld Z h x ST "value" "[B" v0) (C : RoadKit.Fld Z h x ST "coder" "B" c0) (K : RoadKit.Arv Z h b kC .char N (cs.map Value.int) d) (S : RoadKit.Sta Z h ST "COMPACT_STRINGS" "Z" (.int z)) (hz : ¬ z = 0)
    (hn : cs.length = n) (hN : N = Int32.ofNat n) (l0 : 0 < n) (l2 : n ≤ 4000) (hp : ∀ c ∈ cs, ¬ c < 0 ∧ ¬ (255 : Int32) < c) (hb : bs = cs.map (fun c => c.toInt8.toInt32)) (hfr : 4 ≤ R.frames) (hlo : W + 65 ≤ R.locals) :
    Back l R p e below s args (⟨"java/lang/String", "<init>", "([C)V"⟩ : MethodName) len W (fun P a => a = #[.ref x, .ref b] ∧ P.U.heap = h ∧ P.cells + 1 ≤ R.cells ∧ P.slots + n ≤ R.slots)
      (fun P _ v B => ∃ L, QV Z x N bs h n0 v B.U.heap L ∧ B.locs = P.locs ++ L ∧ B.cells = P.cells + 1 ∧ B.slots = P.slots + n) := by
  subst hn hN hb
  refine Back.mono (backArv hZ hw wi E V C K S hz (n32 (by omega)) l0 (by omega) (fun c hc => (hp c hc).2) hfr hlo) (fun P a hp => hp) (fun P a v B hp hq => ?_)
  obtain ⟨L, ⟨q1, q2, q3, q4, q5, q6, q7, ⟨kb, v1, v2⟩, q9⟩, hl, hc, hs⟩ := hq
  exact ⟨L, ⟨q1, fun y hy => by rw [q2 y hy]; exact hx0, q3, q5, q7, h.size, kb, hh0, Nat.le_refl _, Nat.ne_of_gt E.lt, q6, by rw [List.map_map]; exact v2⟩, hl, hc, hs⟩
end StrChars.Road
namespace StrChars
open Jvm Sem ClassFile Op Lib Jvm.Stand Jvm.Free.XT Jvm.Free.ALB Jvm.Free.JM Jvm.Free
open Jvm.Lib.Cold (StaticIs)
def hi8 (x : Int32) : Int32 := lo8 (x >>> ((8 : Int32) &&& 31))
/-- what StringUTF16.getChar makes of two bytes -/
def pairCh (u v : Int32) : Int32 := (((u &&& 255) <<< ((0 : Int32) &&& 31)) ||| ((v &&& 255) <<< ((8 : Int32) &&& 31))).toUInt32.toUInt16.toUInt32.toInt32
theorem lo8_and (x : Int32) : (lo8 x &&& 255).toBitVec.toNat = x.toBitVec.toNat % 256 := by
  have h : (lo8 x).toBitVec = (x.toBitVec.signExtend 8).signExtend 32 := by rw [lo8, Int8.toBitVec_toInt32, Int32.toBitVec_toInt8]
  rw [Int32.toBitVec_and, BitVec.toNat_and, h]
  have e : ((x.toBitVec.signExtend 8).signExtend 32).toNat % 256 = x.toBitVec.toNat % 256 := by
    rw [BitVec.toNat_signExtend]
    have hlt := x.toBitVec.isLt
    simp only [BitVec.toNat_setWidth, BitVec.toNat_signExtend]
    split <;> split <;> omega
  rw [← e]
  exact Nat.and_two_pow_sub_one_eq_mod _ 8
theorem pair_says {c : Int32} (h0 : ¬ c < 0) (h1 : ¬ 65535 < c) : pairCh (lo8 c) (hi8 c) = c := by
  rw [Int32.lt_iff_toInt_lt] at h0 h1
  have e0 : (0 : Int32).toInt = 0 := rfl
  have e1 : (65535 : Int32).toInt = 65535 := rfl
  have hc : c.toInt = c.toBitVec.toNat := by
    have := c.toBitVec.isLt
    have e : c.toInt = c.toBitVec.toInt := rfl
    rw [e] at h0 h1
    rw [e]
    rw [BitVec.toInt_eq_toNat_cond] at h0 h1 ⊢
    split at h0 <;> split <;> omega
  have hn : c.toBitVec.toNat < 65536 := by omega
  have a1 := lo8_and c
  have a2 : (hi8 c &&& 255).toBitVec.toNat = c.toBitVec.toNat / 256 := by
    rw [hi8, lo8_and]
    have e : ((8 : Int32) &&& 31) = 8 := by decide
    rw [e, Int32.toBitVec_shiftRight]
    have e2 : ((8 : Int32).toBitVec.smod 32) = 8#32 := by decide
    rw [e2, BitVec.sshiftRight_eq', BitVec.toNat_sshiftRight_of_msb_false (by rw [BitVec.msb_eq_false_iff_two_mul_lt]; omega)]
    show c.toBitVec.toNat >>> 8 % 256 = _
    rw [Nat.shiftRight_eq_div_pow]
    omega
  unfold pairCh
  apply Int32.toBitVec_inj.mp
  apply BitVec.eq_of_toNat_eq
  have f0 : ((0 : Int32) &&& 31) = 0 := by decide
  have f8 : ((8 : Int32) &&& 31) = 8 := by decide
  rw [f0, f8]
  have g : (((lo8 c &&& 255) <<< (0 : Int32)) ||| ((hi8 c &&& 255) <<< (8 : Int32))).toBitVec.toNat = c.toBitVec.toNat := by
    rw [Int32.toBitVec_or, Int32.toBitVec_shiftLeft, Int32.toBitVec_shiftLeft]
    have s0 : ((0 : Int32).toBitVec.smod 32) = 0#32 := by decide
    have s8 : ((8 : Int32).toBitVec.smod 32) = 8#32 := by decide
    rw [s0, s8, BitVec.toNat_or]
    simp only [BitVec.shiftLeft_eq', BitVec.toNat_shiftLeft, a1, a2]
    show (c.toBitVec.toNat % 256) <<< 0 % 2 ^ 32 ||| (c.toBitVec.toNat / 256) <<< 8 % 2 ^ 32 = _
    rw [Nat.shiftLeft_zero, Nat.mod_eq_of_lt (show c.toBitVec.toNat % 256 < 2 ^ 32 by omega), Nat.mod_eq_of_lt (show (c.toBitVec.toNat / 256) <<< 8 < 2 ^ 32 by rw [Nat.shiftLeft_eq]; omega), Nat.or_comm, ← Nat.shiftLeft_add_eq_or_of_lt (by omega), Nat.shiftLeft_eq]
    omega
  show BitVec.toNat (((((lo8 c &&& 255) <<< (0 : Int32)) ||| ((hi8 c &&& 255) <<< (8 : Int32))).toBitVec.setWidth 16).setWidth 32) = _
  rw [BitVec.toNat_setWidth, BitVec.toNat_setWidth, g]
  omega
end StrChars
namespace StrChars
open Jvm Sem ClassFile Op Lib Jvm.Stand Jvm.Free.XT Jvm.Free.ALB Jvm.Free.JM Jvm.Free
open Jvm.Lib.Cold (StaticIs)
/-- charAt's cast of a byte read back -/
def chr8 (u : Int32) : Int32 := (u &&& 255).toUInt32.toUInt16.toUInt32.toInt32
theorem chr8_lo8 {c : Int32} (h0 : ¬ c < 0) (h1 : ¬ 255 < c) : chr8 (lo8 c) = c := by
  have t : ∀ k : Fin 256, (Int32.ofNat k.val).toUInt32.toUInt16.toUInt32.toInt32 = Int32.ofNat k.val := by decide +kernel
  unfold chr8
  rw [lo8_mask h0 h1]
  rw [Int32.lt_iff_toInt_lt] at h0 h1
  have e0 : (0 : Int32).toInt = 0 := rfl
  have e1 : (255 : Int32).toInt = 255 := rfl
  obtain ⟨k, hk⟩ : ∃ k : Nat, c.toInt = k := ⟨c.toInt.toNat, by omega⟩
  have hx : c = Int32.ofNat k := Int32.toInt_inj.mp (by rw [hk, Int32.toInt_ofNat_small (by omega)])
  rw [hx]
  exact t ⟨k, by omega⟩
theorem narrow_ch {c : Int32} (h0 : ¬ c < 0) (h1 : ¬ 65535 < c) : narrow .char (.int c) = .int c := by
  have q : narrow .char (.int (pairCh (lo8 c) (hi8 c))) = .int (pairCh (lo8 c) (hi8 c)) := narrow_c _
  rwa [pair_says h0 h1] at q
/-- the array's cell V codes the n chars f 0 .. f (n - 1) by the coder cd, as the JDK does: coder 1 just where some char is above 255 -/
def Cod (cd : Int32) (n : Nat) (f : Nat → Int32) (V : Cell) : Prop := (cd = 0 ∧ V.slots.size = n ∧ ∀ j, j < n → V.slots[j]? = some (.int (lo8 (f j))) ∧ ¬ 255 < f j) ∨ (cd = 1 ∧ V.slots.size = 2 * n ∧ (∀ j, j < n → V.slots[2 * j]? = some (.int (lo8 (f j))) ∧ V.slots[2 * j + 1]? = some (.int (hi8 (f j)))) ∧ ∃ j, j < n ∧ 255 < f j)
theorem Cod.cd {cd : Int32} {n : Nat} {f : Nat → Int32} {V : Cell} (h : Cod cd n f V) : cd = 0 ∨ cd = 1 := h.imp (fun q => q.1) fun q => q.1
/-- **x is a String of the n chars f 0 .. f (n - 1)**, Latin-1 or UTF-16; its array at t has the cell V -/
def Txt (x t : Addr) (V : Cell) (cd : Int32) (n : Nat) (f : Nat → Int32) (U : State) : Prop := Exact "java/lang/String" x U ∧ Has x "java/lang/String" "value" "[B" (.ref t) U ∧ Has x "java/lang/String" "coder" "B" (.int cd) U ∧ XT.Arr .byte t V U ∧ Cod cd n f V ∧ ∀ j, j < n → ¬ f j < 0 ∧ ¬ 65535 < f j
theorem Txt.mv {x t : Addr} {V : Cell} {cd : Int32} {n : Nat} {f : Nat → Int32} {U U' : State} (h : Txt x t V cd n f U) (hal : U.vm.Alike U'.vm) (hh : U'.heap = U.heap) : Txt x t V cd n f U' := ⟨h.1.mv hal hh, h.2.1.mv hal hh, h.2.2.1.mv hal hh, h.2.2.2.1.mv hal hh, h.2.2.2.2⟩
namespace IsL
def yN : MethodName := ⟨"java/lang/String", "isLatin1", "()Z"⟩
abbrev yB : ByteArray := jdk_42_method_154_code
theorem d0 : decode yB 0 = .ok (.getstatic 38, 3) := by decide +kernel
theorem d3 : decode yB 3 = .ok (.ifCond (.eq) 14, 3) := by decide +kernel
theorem d6 : decode yB 6 = .ok (.aload_n 0, 1) := by decide +kernel
theorem d7 : decode yB 7 = .ok (.getfield 15, 3) := by decide +kernel
theorem d10 : decode yB 10 = .ok (.ifCond (.ne) 7, 3) := by decide +kernel
theorem d13 : decode yB 13 = .ok (.iconst 1, 1) := by decide +kernel
theorem d14 : decode yB 14 = .ok (.goto 4, 3) := by decide +kernel
theorem d17 : decode yB 17 = .ok (.iconst 0, 1) := by decide +kernel
theorem d18 : decode yB 18 = .ok (.ireturn, 1) := by decide +kernel
def site : List Cond := [.fieldLink "java/lang/String" 38 "java/lang/String" "COMPACT_STRINGS" "Z", .fieldLink "java/lang/String" 15 "java/lang/String" "coder" "B"]
def tab : Cond := tabOf yN yB 1 (some .boolean) site
def P (x : Addr) (cd z : Int32) (args : Array Value) (s : State) : Prop := args = #[.ref x] ∧ Has x "java/lang/String" "coder" "B" (.int cd) s ∧ (cd = 0 ∨ cd = 1) ∧ StaticIs s "java/lang/String" "COMPACT_STRINGS" "Z" (.int z) ∧ ¬ z = 0
def E (cd : Int32) (r : Option Value) (s u : State) : Prop := XT.PureE (some (.int (1 - cd))) r s u
theorem law (l : Launch) (x : Addr) (cd z : Int32) : Law l yN 1 0 0 0 yB 1 (some .boolean) site (P x cd z) (E cd) [] 0 0 := by
  refine Law.of_walk (plainFor_of_name (by decide +kernel)) (by decide +kernel) (by decide +kernel) (by decide) (fun _ _ h => by rw [h.1]; rfl) (fun _ U U' hal hh h => ⟨h.1, h.2.1.mv hal hh, h.2.2.1, h.2.2.2.1.there hal hh, h.2.2.2.2⟩) (fun r U U' V V' h1 hal h2 h => XT.PureE.mv r U U' V V' h1 hal h2 h) ?_
  intro p e s m args below meth c s₁ X0 hexec hbytes hml hret hlk hnm hown hh0 W hP
  obtain ⟨rfl, hx, hc, s1, hz⟩ := hP
  have c1 : Steps p.tables e below (s₁.setTop (entryFrame m #[.ref x] 1)) (s₁.setTop (mkF m 0 #[.val (.ref x)] [])) := entry rfl
  obtain ⟨T2, X2, q2, st2⟩ := X0.sget hexec hown (wk W (.fieldLink "java/lang/String" 38 "java/lang/String" "COMPACT_STRINGS" "Z")) s1 (fun _ _ h => by rw [hh0]; exact h) (g := (mkF m 0 #[.val (.ref x)] [])) rfl (hb hbytes d0)
  have hh2 := q2.trans hh0
  have c3 : Steps p.tables e below (s₁.setTop (entryFrame m #[.ref x] 1)) (T2.setTop (mkF m 7 #[.val (.ref x)] [.ref x])) := (c1.trans (st2 _ (Steps.refl _))).trans (by
    refine XS.ifNo X2.here hexec rfl (hb hbytes d3) rfl (i0_eq_f hz) ?_
    refine XS.aloadN X2.here hexec rfl (hb hbytes d6) rfl rfl ?_
    exact Steps.refl _)
  obtain ⟨T4, X4, q4, st4⟩ := X2.hget hexec hown (wk W (.fieldLink "java/lang/String" 15 "java/lang/String" "coder" "B")) (hx.mv X2.warmed.alike hh2) (g := (mkF m 7 #[.val (.ref x)] [.ref x])) rfl (rest := []) rfl (hb hbytes d7)
  have c5 : Steps p.tables e below (s₁.setTop (entryFrame m #[.ref x] 1)) (T4.setTop (mkF m 10 #[.val (.ref x)] [.int cd])) := c3.trans (st4 _ (Steps.refl _))
  have c6 : Steps p.tables e below (s₁.setTop (entryFrame m #[.ref x] 1)) (T4.setTop (mkF m 18 #[.val (.ref x)] [.int (1 - cd)])) := by
    rcases hc with rfl | rfl
    · exact c5.trans (by
        refine XS.ifNo X4.here hexec rfl (hb hbytes d10) rfl (i0_ne_f rfl) ?_
        refine iconstV X4.here hexec rfl 1 (hb hbytes d13) (by decide) ?_
        refine XS.goto X4.here hexec rfl (pc0 := 14) rfl (hb hbytes d14) (by decide) rfl ?_
        exact Steps.refl _)
    · exact c5.trans (by
        refine XS.ifYes X4.here hexec rfl (pc0 := 10) rfl (hb hbytes d10) rfl (i0_ne_t (by decide)) (by decide) rfl ?_
        refine iconstV X4.here hexec rfl 0 (hb hbytes d17) (by decide) ?_
        exact Steps.refl _)
  exact ⟨T4, some (.int (1 - cd)), _, _, _, X4, rfl, rfl, rfl, (fun h => by cases h), ⟨rfl, q4.trans hh2⟩, fun fs hl => c6.trans (X4.ireturnOut hexec hret (by rcases hc with rfl | rfl <;> rfl) (Or.inr (Or.inl rfl)) (hb hbytes d18) hl)⟩
end IsL
namespace LChA
def yN : MethodName := ⟨"java/lang/StringLatin1", "charAt", "([BI)C"⟩
abbrev yB : ByteArray := jdk_43_method_2_code
theorem d0 : decode yB 0 = .ok (.iload_n 1, 1) := by decide +kernel
theorem d1 : decode yB 1 = .ok (.aload_n 0, 1) := by decide +kernel
theorem d2 : decode yB 2 = .ok (.arraylength, 1) := by decide +kernel
theorem d3 : decode yB 3 = .ok (.invokestatic 9, 3) := by decide +kernel
theorem d6 : decode yB 6 = .ok (.aload_n 0, 1) := by decide +kernel
theorem d7 : decode yB 7 = .ok (.iload_n 1, 1) := by decide +kernel
theorem d8 : decode yB 8 = .ok (.baload, 1) := by decide +kernel
theorem d9 : decode yB 9 = .ok (.sipush 255, 3) := by decide +kernel
theorem d12 : decode yB 12 = .ok (.iand, 1) := by decide +kernel
theorem d13 : decode yB 13 = .ok (.i2c, 1) := by decide +kernel
theorem d14 : decode yB 14 = .ok (.ireturn, 1) := by decide +kernel
def site : List Cond := [JO.Str_checkIndex.tab] ++ staticW "java/lang/StringLatin1" 9 JO.Str_checkIndex.yN
def tab : Cond := tabOf yN yB 2 (some .char) site
def P (t : Addr) (V : Cell) (i : Nat) (u : Int32) (fm : Value) (args : Array Value) (s : State) : Prop := args = #[.ref t, .int (Int32.ofNat i)] ∧ XT.Arr .byte t V s ∧ V.slots[i]? = some (.int u) ∧ (StaticIs s "jdk/internal/util/Preconditions" "SIOOBE_FORMATTER" "Ljava/util/function/BiFunction;" fm ∧ fm.isRef = true)
def E (u : Int32) (r : Option Value) (s w : State) : Prop := XT.PureE (some (.int (chr8 u))) r s w
theorem law (l : Launch) (t : Addr) (V : Cell) (i : Nat) (u : Int32) (fm : Value) : Law l yN 2 2 2 27 yB 2 (some .char) site (P t V i u fm) (E u) [] 0 0 := by
  refine Law.of_walk (plainFor_of_name (by decide +kernel)) (by decide +kernel) (by decide +kernel) (by decide) (fun _ _ h => by rw [h.1]; rfl) (fun _ U U' hal hh h => ⟨h.1, h.2.1.mv hal hh, h.2.2.1, h.2.2.2.1.there hal hh, h.2.2.2.2⟩) (fun r U U' V V' h1 hal h2 h => XT.PureE.mv r U U' V V' h1 hal h2 h) ?_
  intro p e s m args below meth c s₁ X0 hexec hbytes hml hret hlk hnm hown hh0 W hP
  obtain ⟨rfl, hV, hu, s1, rf⟩ := hP
  have v31 := hV.2.2.2
  have hi : i < V.slots.size := (Array.getElem?_eq_some_iff.mp hu).1
  have c1 : Steps p.tables e below (s₁.setTop (entryFrame m #[.ref t, .int (Int32.ofNat i)] 2)) (s₁.setTop (mkF m 0 #[.val (.ref t), .val (.int (Int32.ofNat i))] [])) := entry rfl
  have c2 : Steps p.tables e below (s₁.setTop (entryFrame m #[.ref t, .int (Int32.ofNat i)] 2)) (s₁.setTop (mkF m 3 #[.val (.ref t), .val (.int (Int32.ofNat i))] [.int (Int32.ofNat V.slots.size), .int (Int32.ofNat i)])) := c1.trans (by
    refine XS.iloadN X0.here hexec rfl (hb hbytes d0) rfl ?_
    refine XS.aloadN X0.here hexec rfl (hb hbytes d1) rfl rfl ?_
    refine X0.alen hexec (hV.mv X0.warmed.alike hh0) rfl rfl (hb hbytes d2) ?_
    exact Steps.refl _)
  obtain ⟨v3, T3, X3, E3, g3⟩ := X0.callS hexec (JO.Str_checkIndex.law l (Int32.ofNat i) (Int32.ofNat V.slots.size) fm) hown (wks W (staticW "java/lang/StringLatin1" 9 JO.Str_checkIndex.yN)) (wk W JO.Str_checkIndex.tab) (W := 0) (Nat.le_of_ble_eq_true rfl) (Nat.le_of_ble_eq_true rfl) (Nat.le_refl _) (Nat.le_refl _) (g := (mkF m 3 #[.val (.ref t), .val (.int (Int32.ofNat i))] [.int (Int32.ofNat V.slots.size), .int (Int32.ofNat i)])) rfl (by rw [hml]; rfl) c2 (argsL := [.int (Int32.ofNat i), .int (Int32.ofNat V.slots.size)]) (rest := []) rfl rfl (by show 2 * 0 + 0 ≤ _; decide) (hb hbytes d3) (⟨rfl, rf, s1.there X0.warmed.alike hh0, Int32.ofNat_not_neg (by omega), lt32 v31 hi⟩)
  obtain ⟨rfl, q3⟩ := E3
  have hh3 := q3.trans hh0
  have c4 : Steps p.tables e below (s₁.setTop (entryFrame m #[.ref t, .int (Int32.ofNat i)] 2)) (T3.setTop (mkF m 14 #[.val (.ref t), .val (.int (Int32.ofNat i))] [.int (chr8 u)])) := Steps.trans g3 (by
    refine XS.aloadN X3.here hexec rfl (hb hbytes d6) rfl rfl ?_
    refine XS.iloadN X3.here hexec rfl (hb hbytes d7) rfl ?_
    refine X3.aget hexec (hV.mv X3.warmed.alike hh3) rfl hu rfl rfl (hb hbytes d8) ?_
    refine sipushV X3.here hexec rfl 255 (hb hbytes d9) (by decide) ?_
    refine XS.iand X3.here hexec rfl (hb hbytes d12) rfl ?_
    refine i2c X3.here hexec rfl (hb hbytes d13) rfl ?_
    exact Steps.refl _)
  exact ⟨T3, some (.int (chr8 u)), _, _, _, X3, rfl, rfl, rfl, (fun h => by cases h), ⟨rfl, hh3⟩, fun fs hl => c4.trans (X3.ireturnOut hexec hret (narrow_c _) (Or.inr (Or.inr (Or.inr (Or.inl rfl)))) (hb hbytes d14) hl)⟩
end LChA
end StrChars
namespace StrChars.Road
open Jvm Sem ClassFile Op Lib Jvm.Stand Jvm.Free Jvm.Free.XT
open Jvm.Lib.Cold (StaticIs)
theorem consq {a : Array Value} {s : State} {c : Jvm.Cond} {L : List Jvm.Cond} (h0 : c.before a s = true) (h : ∀ w ∈ L, w.before a s = true) : ∀ w ∈ c :: L, w.before a s = true := fun w hw => (List.mem_cons.mp hw).elim (fun e => e ▸ h0) (h w)
/-- the bytes of the chars cs, low before high -/
def wideBytes : List Int32 → List Value
  | [] => []
  | c :: cs => .int (lo8 c) :: .int (hi8 c) :: wideBytes cs
theorem wide_lo (d : Value) : ∀ (cs : List Int32) (j : Nat), j < cs.length → (wideBytes cs).getD (2 * j) d = .int (lo8 (cs.getD j 0))
  | [], j, h => absurd h (Nat.not_lt_zero j)
  | c :: cs, 0, _ => rfl
  | c :: cs, j + 1, h => by
    have q := wide_lo d cs j (by simpa using h)
    rw [show 2 * (j + 1) = 2 * j + 1 + 1 from by omega]
    simpa [wideBytes] using q
theorem wide_hi (d : Value) : ∀ (cs : List Int32) (j : Nat), j < cs.length → (wideBytes cs).getD (2 * j + 1) d = .int (hi8 (cs.getD j 0))
  | [], j, h => absurd h (Nat.not_lt_zero j)
  | c :: cs, 0, _ => rfl
  | c :: cs, j + 1, h => by
    have q := wide_hi d cs j (by simpa using h)
    rw [show 2 * (j + 1) + 1 = 2 * j + 1 + 1 + 1 from by omega]
    simpa [wideBytes] using q
theorem low_at (d : Value) (cs : List Int32) (j : Nat) (h : j < cs.length) : (cs.map fun c => Value.int (lo8 c)).getD j d = .int (lo8 (cs.getD j 0)) := by
  simp [List.getD_eq_getElem?_getD, h]
/-- an array of N2 bytes vs codes the chars cs by the coder cd -/
def CodA (cs : List Int32) (cd N2 : Int32) (vs : List Value) : Prop := (cd = 0 ∧ N2 = Int32.ofNat cs.length ∧ vs = (cs.map fun c => Value.int (lo8 c)) ∧ ∀ c ∈ cs, ¬ 255 < c) ∨ (cd = 1 ∧ N2 = Int32.ofNat (2 * cs.length) ∧ vs = wideBytes cs ∧ ∃ c ∈ cs, 255 < c)
theorem CodA.cod {cs : List Int32} {cd N2 : Int32} {vs : List Value} {V : Cell} (h : CodA cs cd N2 vs) (hn : 2 * cs.length < 2 ^ 31) (hs : V.slots.size = N2.toNatClampNeg) (hv : RoadKit.Has V vs (.int 0)) : Cod cd cs.length (fun j => cs.getD j 0) V := by
  rcases h with ⟨rfl, rfl, rfl, h⟩ | ⟨rfl, rfl, rfl, c, hc, hw⟩
  · rw [n32 (by omega)] at hs
    exact Or.inl ⟨rfl, hs, fun j hj => ⟨by rw [hv j (by omega), low_at _ _ _ hj], by
      have e : cs.getD j 0 = cs[j] := by simp [List.getD_eq_getElem?_getD, hj]
      show ¬ 255 < cs.getD j 0
      rw [e]; exact h _ (List.getElem_mem _)⟩⟩
  · rw [n32 (by omega)] at hs
    obtain ⟨j, hj, rfl⟩ := List.getElem_of_mem hc
    exact Or.inr ⟨rfl, hs, fun j hj => ⟨by rw [hv _ (by omega), wide_lo _ _ _ hj], by rw [hv _ (by omega), wide_hi _ _ _ hj]⟩, j, hj, by
      have e : cs.getD j 0 = cs[j] := by simp [List.getD_eq_getElem?_getD, hj]
      show 255 < cs.getD j 0
      rw [e]; exact hw⟩
/-- an object of exactly java/lang/String, its two fields found: as the laws ask it -/
theorem strObj {Z U : State} {a0 : Array Value} {kI : Nat} (wi : (Jvm.Cond.instantiable ST kI).before a0 Z = true) (al : Z.vm.Alike U.vm) {x : Addr} {v0 c0 : Value} (E : RoadKit.Exa Z U.heap x ST) (V : RoadKit.Fld Z U.heap x ST "value" "[B" v0) (C : RoadKit.Fld Z U.heap x ST "coder" "B" c0) :
    ∃ (D : Cell) (fV fC : Field), Blank ST x D U ∧ Found ST "value" "[B" fV U ∧ Found ST "coder" "B" fC U ∧ D.slots[fV.slot]? = some v0 ∧ D.slots[fC.slot]? = some c0 ∧ RoadKit.slotOf Z ST "value" "[B" = fV.slot ∧ RoadKit.slotOf Z ST "coder" "B" = fC.slot := by
  obtain ⟨D, cfV, kV, iV, fV, hD, gV, stV, knV, obV, asV, slV⟩ := V
  obtain ⟨D', cfC, kC, iC, fC, hD', gC, stC, -, -, asC, slC⟩ := C
  cases hD.symm.trans hD'
  obtain ⟨D2, kD, e1, e2, e3, e4, e5⟩ := E
  cases hD.symm.trans e1
  obtain ⟨c2, k2, i1, i2, i3, -⟩ := Cond.instantiable_spec wi
  cases e2.symm.trans i1
  cases e3.symm.trans i2
  obtain ⟨kU, u1, u2⟩ := al.2.2 _ _ e3
  exact ⟨D, fV, fC, ⟨hD, ⟨knV, fun q hq => by rw [hq] at obV; cases obV⟩, by rw [al.findClass]; exact e2, kU, u1, by rw [u2]; exact i3, by rw [u2]; exact e5 i3⟩, ⟨SBG.found_only al ⟨cfV, kV, iV, gV⟩, stV⟩, ⟨SBG.found_only al ⟨cfC, kC, iC, gC⟩, stC⟩, slV, slC, by simp [RoadKit.slotOf, gV], by simp [RoadKit.slotOf, gC]⟩
theorem sta_is {Z U : State} (al : Z.vm.Alike U.vm) {C n d : String} {v : Value} (S : RoadKit.Sta Z U.heap C n d v) : StaticIs U C n d v := by
  obtain ⟨cfS, iS, kS, fS, st, cS, t1, t2, t3, t4, t5, t6, t7⟩ := S
  exact StaticIs.there (s := { Z with heap := U.heap }) ⟨cfS, iS, kS, fS, st, cS, t1, t2, t3, t4, t5, (fun q => by rw [q] at t6; cases t6), t7⟩ al rfl
end StrChars.Road
namespace StrChars.Road
open Jvm Sem ClassFile Op Lib Jvm.Stand Jvm.Free Jvm.Free.XT
open Jvm.Lib.Cold (StaticIs)
/-- the road's facts of a String, as the laws ask it -/
theorem txt_of {Z U : State} {a0 : Array Value} {kI : Nat} (wi : (Jvm.Cond.instantiable ST kI).before a0 Z = true) (al : Z.vm.Alike U.vm) {x t : Addr} {kb : ClassId} {cs : List Int32} {cd N2 : Int32} {vs : List Value} (E : RoadKit.Exa Z U.heap x ST) (V : RoadKit.Fld Z U.heap x ST "value" "[B" (.ref t)) (C : RoadKit.Fld Z U.heap x ST "coder" "B" (.int cd)) (K : RoadKit.Arv Z U.heap t kb .byte N2 vs (.int 0)) (hc : CodA cs cd N2 vs) (hb : ∀ c ∈ cs, ¬ c < 0 ∧ ¬ (65535 : Int32) < c) (l2 : cs.length ≤ 4000) :
    ∃ A, Txt x t A cd cs.length (fun j => cs.getD j 0) U := by
  obtain ⟨A, K1, K2, K3, K4, K5, K6⟩ := K
  have hcod := hc.cod (by omega) K3 K5
  obtain ⟨D, fV, fC, hB, F1, F2, g1, g2, -, -⟩ := strObj wi al E V C
  exact ⟨A, ⟨_, hB.2.2.1, D, hB.1, rfl, by cases q : D.vm <;> first | rfl | exact absurd q (hB.2.1.2 _)⟩, Has.of hB F1 g1, Has.of hB F2 g2, ⟨K1.1, State.isArrayOf_alike al K1.2.1, K1.2.2, by rcases hcod with ⟨-, q, -⟩ | ⟨-, q, -⟩ <;> omega⟩, hcod, fun j hj => by
    have e : cs.getD j 0 = cs[j] := by simp [List.getD_eq_getElem?_getD, hj]
    show ¬ cs.getD j 0 < 0 ∧ ¬ 65535 < cs.getD j 0
    rw [e]; exact hb _ (List.getElem_mem _)⟩
end StrChars.Road
namespace StrChars
open Jvm Sem ClassFile Op Lib Jvm.Stand Jvm.Free.XT Jvm.Free.ALB Jvm.Free.JM Jvm.Free
open Jvm.Lib.Cold (StaticIs)
namespace ChN
def yN : MethodName := ⟨"java/lang/String", "charAt", "(I)C"⟩
abbrev yB : ByteArray := jdk_42_method_56_code
theorem d0 : decode yB 0 = .ok (.aload_n 0, 1) := by decide +kernel
theorem d1 : decode yB 1 = .ok (.invokevirtual 492, 3) := by decide +kernel
theorem d4 : decode yB 4 = .ok (.ifCond (.eq) 12, 3) := by decide +kernel
theorem d7 : decode yB 7 = .ok (.aload_n 0, 1) := by decide +kernel
theorem d8 : decode yB 8 = .ok (.getfield 9, 3) := by decide +kernel
theorem d11 : decode yB 11 = .ok (.iload_n 1, 1) := by decide +kernel
theorem d12 : decode yB 12 = .ok (.invokestatic 495, 3) := by decide +kernel
theorem d15 : decode yB 15 = .ok (.ireturn, 1) := by decide +kernel
def site : List Cond := [.fieldLink "java/lang/String" 9 "java/lang/String" "value" "[B", IsL.tab, LChA.tab] ++ virtW "java/lang/String" 492 "java/lang/String" IsL.yN IsL.yN ++ staticW "java/lang/String" 495 LChA.yN
def tab : Cond := tabOf yN yB 2 (some .char) site
def P (x t : Addr) (V : Cell) (n : Nat) (f : Nat → Int32) (z : Int32) (fm : Value) (i : Nat) (args : Array Value) (s : State) : Prop := args = #[.ref x, .int (Int32.ofNat i)] ∧ Txt x t V 0 n f s ∧ i < n ∧ StaticIs s "java/lang/String" "COMPACT_STRINGS" "Z" (.int z) ∧ ¬ z = 0 ∧ StaticIs s "jdk/internal/util/Preconditions" "SIOOBE_FORMATTER" "Ljava/util/function/BiFunction;" fm ∧ fm.isRef = true
def E (f : Nat → Int32) (i : Nat) (r : Option Value) (s u : State) : Prop := XT.PureE (some (.int (f i))) r s u
/-- charAt(i) of a Latin-1 String of n chars, i < n: f i -/
theorem law (l : Launch) (x t : Addr) (V : Cell) (n : Nat) (f : Nat → Int32) (z : Int32) (fm : Value) (i : Nat) : Law l yN 2 1 3 40 yB 2 (some .char) site (P x t V n f z fm i) (E f i) [] 0 0 := by
  refine Law.of_walk (plainFor_of_name (by decide +kernel)) (by decide +kernel) (by decide +kernel) (by decide) (fun _ _ h => by rw [h.1]; rfl) (fun _ U U' hal hh h => ⟨h.1, h.2.1.mv hal hh, h.2.2.1, h.2.2.2.1.there hal hh, h.2.2.2.2.1, h.2.2.2.2.2.1.there hal hh, h.2.2.2.2.2.2⟩) (fun r U U' V V' h1 hal h2 h => XT.PureE.mv r U U' V V' h1 hal h2 h) ?_
  intro p e s m args below meth c s₁ X0 hexec hbytes hml hret hlk hnm hown hh0 W hP
  obtain ⟨rfl, hx, hi, s1, hz, s3, rf⟩ := hP
  have v31 := hx.2.2.2.1.2.2.2
  have hr := hx.2.2.2.2.2 i hi
  have hx0 := hx.mv X0.warmed.alike hh0
  have c1 : Steps p.tables e below (s₁.setTop (entryFrame m #[.ref x, .int (Int32.ofNat i)] 2)) (s₁.setTop (mkF m 1 #[.val (.ref x), .val (.int (Int32.ofNat i))] [.ref x])) := Steps.trans (entry rfl) (by
    show Steps p.tables e below (s₁.setTop (mkF m 0 #[.val (.ref x), .val (.int (Int32.ofNat i))] [])) _
    refine XS.aloadN X0.here hexec rfl (hb hbytes d0) rfl rfl ?_
    exact Steps.refl _)
  obtain ⟨v2, T2, X2, E2, g2⟩ := X0.callV hexec (IsL.law l x 0 z) hown (wks W (virtW "java/lang/String" 492 "java/lang/String" IsL.yN IsL.yN)) rfl (by decide) (wk W IsL.tab) (W := 0) (Nat.le_of_ble_eq_true rfl) (Nat.le_of_ble_eq_true rfl) (Nat.le_refl _) (Nat.le_refl _) (hx0.1.fc X0.warmed.alike) hx0.1.is (g := (mkF m 1 #[.val (.ref x), .val (.int (Int32.ofNat i))] [.ref x])) rfl (by rw [hml]; rfl) c1 (argsL := []) (rest := []) rfl rfl (by show 2 * 0 + 0 ≤ _; decide) (hb hbytes d1) (⟨rfl, hx0.2.2.1, hx.2.2.2.2.1.cd, s1.there X0.warmed.alike hh0, hz⟩)
  obtain ⟨rfl, q2⟩ := E2
  have hh2 := q2.trans hh0
  have hx2 := hx.mv X2.warmed.alike hh2
  obtain ⟨-, k1, k2⟩ | ⟨k0, -⟩ := hx.2.2.2.2.1
  · have c3 : Steps p.tables e below (s₁.setTop (entryFrame m #[.ref x, .int (Int32.ofNat i)] 2)) (T2.setTop (mkF m 8 #[.val (.ref x), .val (.int (Int32.ofNat i))] [.ref x])) := Steps.trans g2 (by
      refine XS.ifNo X2.here hexec rfl (hb hbytes d4) rfl (i0_eq_f (by decide)) ?_
      refine XS.aloadN X2.here hexec rfl (hb hbytes d7) rfl rfl ?_
      exact Steps.refl _)
    obtain ⟨T4, X4, q4, st4⟩ := X2.hget hexec hown (wk W (.fieldLink "java/lang/String" 9 "java/lang/String" "value" "[B")) hx2.2.1 (g := (mkF m 8 #[.val (.ref x), .val (.int (Int32.ofNat i))] [.ref x])) rfl (rest := []) rfl (hb hbytes d8)
    have hh4 := q4.trans hh2
    have c5 : Steps p.tables e below (s₁.setTop (entryFrame m #[.ref x, .int (Int32.ofNat i)] 2)) (T4.setTop (mkF m 12 #[.val (.ref x), .val (.int (Int32.ofNat i))] [.int (Int32.ofNat i), .ref t])) := (c3.trans (st4 _ (Steps.refl _))).trans (by
      refine XS.iloadN X4.here hexec rfl (hb hbytes d11) rfl ?_
      exact Steps.refl _)
    obtain ⟨v6, T6, X6, E6, g6⟩ := X4.callS hexec (LChA.law l t V i (lo8 (f i)) fm) hown (wks W (staticW "java/lang/String" 495 LChA.yN)) (wk W LChA.tab) (W := 0) (Nat.le_of_ble_eq_true rfl) (Nat.le_of_ble_eq_true rfl) (Nat.le_refl _) (Nat.le_refl _) (g := (mkF m 12 #[.val (.ref x), .val (.int (Int32.ofNat i))] [.int (Int32.ofNat i), .ref t])) rfl (by rw [hml]; rfl) c5 (argsL := [.ref t, .int (Int32.ofNat i)]) (rest := []) rfl rfl (by show 2 * 0 + 0 ≤ _; decide) (hb hbytes d12) (⟨rfl, hx.2.2.2.1.mv X4.warmed.alike hh4, (k2 i hi).1, s3.there X4.warmed.alike hh4, rf⟩)
    obtain ⟨rfl, q6⟩ := E6
    rw [chr8_lo8 hr.1 (k2 i hi).2] at g6
    exact ⟨T6, some (.int (f i)), _, _, _, X6, rfl, rfl, rfl, (fun h => by cases h), ⟨rfl, q6.trans hh4⟩, fun fs hl => Steps.trans g6 (X6.ireturnOut hexec hret (narrow_ch hr.1 hr.2) (Or.inr (Or.inr (Or.inr (Or.inl rfl)))) (hb hbytes d15) hl)⟩
  · exact absurd k0 (by decide)
theorem pays {l : Launch} {R : Room} {p : Program} {e : Env} {below : List Frame} {s : State} {sargs : Array Value} {len W : Nat} (x t : Addr) (V : Cell) (n : Nat) (f : Nat → Int32) (z : Int32) (fm : Value) (i : Nat) (htab : tab.before sargs s = true) (hfr : 4 ≤ R.frames) (hlo : W + 53 ≤ R.locals) :
    Back l R p e below s sargs yN len W (fun A₁ a₁ => A₁.cells + 0 ≤ R.cells ∧ A₁.slots + 0 ≤ R.slots ∧ P x t V n f z fm i a₁ A₁.U) (fun A₁ _ v₁ B₁ => E f i v₁ A₁.U B₁.U ∧ B₁.locs = A₁.locs ++ [] ∧ B₁.cells = A₁.cells + 0 ∧ B₁.slots = A₁.slots + 0) :=
  (law l x t V n f z fm i).pays htab hfr (by omega)
end ChN
end StrChars
namespace StrChars.Road
open Jvm Sem ClassFile Op Lib Jvm.Stand Jvm.Free Jvm.Free.XT
open Jvm.Lib.Cold (StaticIs)
/-- the words of String.charAt(int), the Latin-1 road alone -/
abbrev wordsChN : List Jvm.Cond := [.code ChN.yN ChN.yB 2 (some .char), .initialized ST, .fieldLink ST 9 ST "value" "[B", .fieldLink ST 38 ST "COMPACT_STRINGS" "Z", .fieldLink ST 15 ST "coder" "B", .code IsL.yN IsL.yB 1 (some .boolean), .methodLink ST 492 IsL.yN, .declares IsL.yN, .selects ST IsL.yN IsL.yN, .instanceMethod IsL.yN,
  .methodLink ST 495 LChA.yN, .static LChA.yN, .code LChA.yN LChA.yB 2 (some .char), .initialized "java/lang/StringLatin1", .methodLink "java/lang/StringLatin1" 9 JO.Str_checkIndex.yN, .static JO.Str_checkIndex.yN, .code JO.Str_checkIndex.yN JO.Str_checkIndex.yB 2 none,
  .fieldLink ST 1053 "jdk/internal/util/Preconditions" "SIOOBE_FORMATTER" "Ljava/util/function/BiFunction;", .methodLink ST 1059 JC.PreCheck.yN, .static JC.PreCheck.yN, .code JC.PreCheck.yN JC.PreCheck.yB 3 (some .int), .initialized "jdk/internal/util/Preconditions"]
theorem tabChN_of {a : Array Value} {s : State} (h : ∀ w ∈ wordsChN, w.before a s = true) : ChN.tab.before a s = true := by
  have hp : JC.PreCheck.tab.before a s = true := unparts (wk h (.code JC.PreCheck.yN JC.PreCheck.yB 3 (some .int))) (wks h (.initialized JC.PreCheck.yN.cls :: JC.PreCheck.site))
  have qk := consq hp h
  have hk : JO.Str_checkIndex.tab.before a s = true := unparts (wk qk (.code JO.Str_checkIndex.yN JO.Str_checkIndex.yB 2 none)) (wks qk (.initialized JO.Str_checkIndex.yN.cls :: JO.Str_checkIndex.site))
  have ql := consq hk h
  have hl : LChA.tab.before a s = true := unparts (wk ql (.code LChA.yN LChA.yB 2 (some .char))) (wks ql (.initialized LChA.yN.cls :: LChA.site))
  have hi : IsL.tab.before a s = true := unparts (wk h (.code IsL.yN IsL.yB 1 (some .boolean))) (wks h (.initialized IsL.yN.cls :: IsL.site))
  have q := consq hi (consq hl h)
  exact unparts (wk q (.code ChN.yN ChN.yB 2 (some .char))) (wks q (.initialized ChN.yN.cls :: ChN.site))
theorem movedChN {Z s : State} {a0 args : Array Value} (hZ : Z.Warmed39 s.vm) (hw : ∀ d ∈ wordsChN, d.before a0 Z = true) : ∀ d ∈ wordsChN, d.before args s = true := fun d hd => by
  have t : ∀ d ∈ wordsChN, (d.onTables && d.keepsFace) = true := by decide +kernel
  exact RoadKit.mv hZ (hw d hd) (t d hd)
/-- **charAt(i) OF A LATIN-1 STRING**, i < n: the char -/
theorem chN {p : Program} {l : Launch} {e : Env} {R : Room} {s : State} {args : Array Value} {below : List Frame} {len W : Nat} {Z : State} {a0 : Array Value} {h : Heap} (hZ : Z.Warmed39 s.vm) (hw : ∀ d ∈ wordsChN, d.before a0 Z = true) {kI : Nat} (wi : (Jvm.Cond.instantiable ST kI).before a0 Z = true)
    {x t : Addr} {kb : ClassId} {cs : List Int32} {N2 z : Int32} {vs : List Value} {fm : Value} {i : Nat} {j : Int32} (E : RoadKit.Exa Z h x ST) (V : RoadKit.Fld Z h x ST "value" "[B" (.ref t)) (C : RoadKit.Fld Z h x ST "coder" "B" (.int 0)) (K : RoadKit.Arv Z h t kb .byte N2 vs (.int 0)) (hc : CodA cs 0 N2 vs) (hb : ∀ c ∈ cs, ¬ c < 0 ∧ ¬ (65535 : Int32) < c)
    (S : RoadKit.Sta Z h ST "COMPACT_STRINGS" "Z" (.int z)) (hz : ¬ z = 0) (F : RoadKit.Sta Z h "jdk/internal/util/Preconditions" "SIOOBE_FORMATTER" "Ljava/util/function/BiFunction;" fm) (rf : fm.isRef = true) (l2 : cs.length ≤ 4000) (hi : i < cs.length) (hj : j = Int32.ofNat i) (hfr : 4 ≤ R.frames) (hlo : W + 53 ≤ R.locals) :
    Back l R p e below s args (⟨"java/lang/String", "charAt", "(I)C"⟩ : MethodName) len W (fun P a => a = #[.ref x, .int j] ∧ P.U.heap = h ∧ P.cells + 0 ≤ R.cells ∧ P.slots + 0 ≤ R.slots)
      (fun P _ v B => ∃ L, (v = some (.int (cs.getD i 0)) ∧ L = [] ∧ B.U.heap = h) ∧ B.locs = P.locs ++ L ∧ B.cells = P.cells + 0 ∧ B.slots = P.slots + 0) := by
  subst hj
  intro m meth c P g ig mk a X hg hsize hdg hW hn hp'
  obtain ⟨rfl, rfl, r1, r2⟩ := hp'
  have al : Z.vm.Alike P.U.vm := hZ.alike.trans X.warmed.alike
  obtain ⟨A, hx⟩ := txt_of wi al E V C K hc hb l2
  obtain ⟨v, B, X', ⟨⟨hv, hh⟩, hl, hk, hs⟩, st⟩ := ChN.pays x t A cs.length (fun j => cs.getD j 0) z fm i (tabChN_of (movedChN hZ hw)) hfr hlo m meth c P g ig mk _ X hg hsize hdg hW hn ⟨r1, r2, rfl, hx, hi, sta_is al S, hz, sta_is al F, rf⟩
  exact ⟨v, B, X', ⟨[], ⟨hv, rfl, hh⟩, hl, hk, hs⟩, st⟩
/-- what backV says of its String, as the contracts of this text ask it: cs's low bytes, coder 0 -/
theorem codOf {cs : List Int32} {n : Nat} (hn : cs.length = n) (hb : ∀ c ∈ cs, ¬ 255 < c) : CodA cs 0 (Int32.ofNat n) ((cs.map lo8).map Value.int) := Or.inl ⟨rfl, by rw [hn], by simp [List.map_map, Function.comp_def], hb⟩
end StrChars.Road
end Jvm.Pilot.@@N@@

namespace Jvm.Pilot.@@N@@
open Jvm Jvm.ClassFile Sem Op Lib Jvm.Free Jvm.Stand Jvm.LawKit Jvm.RoadKit Bundle Jvm.Pilot.@@N@@.Jvm.D
theorem own_ws {a0 : Array Value} {Z : State} (hw : ∀ d ∈ tables_1, d.before a0 Z = true) : ∀ d ∈ StrChars.Road.words, d.before a0 Z = true := fun d hd => hw d ((by decide +kernel : ∀ d ∈ StrChars.Road.words, d ∈ tables_1) d hd)
theorem own_wsChN {a0 : Array Value} {Z : State} (hw : ∀ d ∈ tables_1, d.before a0 Z = true) : ∀ d ∈ StrChars.Road.wordsChN, d.before a0 Z = true := fun d hd => hw d ((by decide +kernel : ∀ d ∈ StrChars.Road.wordsChN, d ∈ tables_1) d hd)
theorem own_up (cs : List Int32) (h : ∀ c ∈ cs, ¬ c < 0 ∧ ¬ (255 : Int32) < c) : ∀ c ∈ cs, ¬ c < 0 ∧ ¬ (65535 : Int32) < c := fun c hc => ⟨(h c hc).1, fun q => (h c hc).2 (by rw [Int32.lt_iff_toInt_lt] at q ⊢; have e1 : (65535 : Int32).toInt = 65535 := rfl; have e2 : (255 : Int32).toInt = 255 := rfl; omega)⟩
theorem own_and255 (x : Int32) : ∃ k : Fin 256, (x &&& (255 : Int32)) = Int32.ofNat k.val := by
  have h : (x &&& 255).toBitVec.toNat < 256 := by
    simp only [Int32.toBitVec_and, BitVec.toNat_and]
    exact Nat.lt_succ_of_le Nat.and_le_right
  refine ⟨⟨_, h⟩, ?_⟩
  apply Int32.toBitVec_inj.mp
  show _ = BitVec.ofNat 32 _
  rw [BitVec.ofNat_toNat]; simp
/-- a char of one byte -/
def own_byte (c : Int32) : Prop := ¬ c < 0 ∧ ¬ (255 : Int32) < c ∧ nar .char c = c
theorem own_byte_and (x : Int32) : own_byte ((x &&& (255 : Int32)).toUInt32.toUInt16.toUInt32.toInt32) := by
  obtain ⟨k, e⟩ := own_and255 x
  rw [e]
  exact (by decide +kernel : ∀ k : Fin 256, ¬ ((Int32.ofNat k.val).toUInt32.toUInt16.toUInt32.toInt32) < 0 ∧ ¬ (255 : Int32) < ((Int32.ofNat k.val).toUInt32.toUInt16.toUInt32.toInt32) ∧ nar .char ((Int32.ofNat k.val).toUInt32.toUInt16.toUInt32.toInt32) = ((Int32.ofNat k.val).toUInt32.toUInt16.toUInt32.toInt32)) k
theorem own_byte_nar {x : Int32} (h : own_byte x) : own_byte (nar .char x) := by rw [h.2.2]; exact h
theorem own_hp {cs : List Int32} (h : ∀ c ∈ cs, own_byte c) : ∀ c ∈ cs, ¬ c < 0 ∧ ¬ (255 : Int32) < c := fun c hc => ⟨(h c hc).1, (h c hc).2.1⟩
def own_ch (x : Int32) : Int32 := if (x &&& (1 : Int32)) = 0 then nar .char (((((x.toUInt32 >>> ((1 : Int32) &&& 31).toUInt32).toInt32) &&& (255 : Int32)).toUInt32.toUInt16.toUInt32.toInt32)) else 36
theorem own_ch_byte (x : Int32) : own_byte (own_ch x) := by
  unfold own_ch
  split
  · exact own_byte_nar (own_byte_and _)
  · exact ⟨by decide, by decide, by decide⟩
theorem ef_1 (m : MethodId) (p1 : Int32) : entryFrame m #[(.int p1)] 1 = mkF m 0 #[.val (.int p1)] [] := by first | (simp [entryFrame, mkF, argsToLocals, Value.category]; done) | rfl
theorem pn_0 : plainName "com/example/otayori/otayori/broker/TopicsIsDollarTopicPinLaw" = true := by first | (simp [plainName, overriddenIn]; done) | decide +kernel
theorem d1_0 : decode method_2_code 0 = .ok (.iload_n 0, 1) := by decide +kernel
theorem d1_1 : decode method_2_code 1 = .ok (.iconst 1, 1) := by decide +kernel
theorem d1_2 : decode method_2_code 2 = .ok (.iand, 1) := by decide +kernel
theorem d1_3 : decode method_2_code 3 = .ok (.ifCond .eq 6, 3) := by decide +kernel
theorem d1_9 : decode method_2_code 9 = .ok (.iload_n 0, 1) := by decide +kernel
theorem d1_10 : decode method_2_code 10 = .ok (.iconst 1, 1) := by decide +kernel
theorem d1_11 : decode method_2_code 11 = .ok (.iushr, 1) := by decide +kernel
theorem d1_12 : decode method_2_code 12 = .ok (.sipush 255, 3) := by decide +kernel
theorem d1_15 : decode method_2_code 15 = .ok (.iand, 1) := by decide +kernel
theorem d1_16 : decode method_2_code 16 = .ok (.i2c, 1) := by decide +kernel
theorem d1_17 : decode method_2_code 17 = .ok (.ireturn, 1) := by decide +kernel
theorem d1_6 : decode method_2_code 6 = .ok (.bipush 36, 2) := by decide +kernel
theorem d1_8 : decode method_2_code 8 = .ok (.ireturn, 1) := by decide +kernel
def Q1 (Z : State) (p1 : Int32) (h0 : Heap) (n0 : Nat) (v : Option Value) (h : Heap) (L : List Loc) : Prop := v = some (.int (own_ch p1)) ∧ Fr n0 L ∧ h = h0
set_option maxRecDepth 65536 in
set_option maxHeartbeats 40000000 in
theorem rm1 (l : Launch) (Z : State) (a0 : Array Value) (hw : ∀ d ∈ tables_1, d.before a0 Z = true) (ws : List Jvm.Cond) (p1 : Int32) (h0 : Heap) (n0 : Nat) (Z0 : n0 ≤ h0.size)  :
    MetFree l (⟨"com/example/otayori/otayori/broker/TopicsIsDollarTopicPinLaw", "ch", "(I)C"⟩ : MethodName) (head1 (Jvm.Cond.code (⟨"com/example/otayori/otayori/broker/TopicsIsDollarTopicPinLaw", "ch", "(I)C"⟩ : MethodName) method_2_code 1 (some .char) :: ws) ({ frames := 0, cells := 0, slots := 0, locals := 0 } : Room)) (fun a U => a = #[(.int p1)] ∧ Z.Warmed39 U.vm ∧ U.heap = h0) (fun _ _ _ _ _ => True) (fun _ U o U' => ∃ v L, o = .returned v ∧ Q1 Z p1 h0 n0 v U'.heap L ∧ FrameEnd U o U' L ({ frames := 0, cells := 0, slots := 0, locals := 0 } : Room).cells ({ frames := 0, cells := 0, slots := 0, locals := 0 } : Room).slots) := by
  refine MetFree.of_bodySF (plainFor_of_name pn_0) hisR ?_
  intro p e s m args below meth c s₁ Bd hml0 hP hK
  obtain ⟨rfl, hZ, hh⟩ := hP
  have hx := Bd.exec
  have hby := Bd.bytes
  have hml : c.maxLocals = 1 := hml0
  have hown : s.vm.findClass "com/example/otayori/otayori/broker/TopicsIsDollarTopicPinLaw" = some m.cls := findClass_of_methodNamed Bd.named
  have hnm := (name_of_methodNamed Bd.named Bd.method).1
  have X0 : Stand p l e ({ frames := 0, cells := 0, slots := 0, locals := 0 } : Room) s m #[(.int p1)] below meth c s₁ [] 0 0 := Stand.of_body Bd
  have e0 : s₁.heap = h0 := by rw [← hh, Bd.state]; rfl
  have NF := Fr.nil n0
  refine WP.go ?_
  refine WP.cast (ef_1 m p1) ?_
  refine WP.name ?_
  intro G hG
  have bk2 : ∀ t, Steps p.tables e below (s₁.setTop (mkF m 3 #[.val (.int p1)] [(.int (p1 &&& (1 : Int32)))])) t → Steps p.tables e below (s₁.setTop (mkF m 0 #[.val (.int p1)] [])) t := fun t k => by
    refine XS.iloadN X0.here hx rfl (hb hby d1_0) rfl ?_
    show Steps p.tables e below (s₁.setTop (mkF m 1 #[.val (.int p1)] [(.int p1)])) t
    refine XS.iconst X0.here hx rfl (hb hby d1_1) ?_
    show Steps p.tables e below (s₁.setTop (mkF m 2 #[.val (.int p1)] [(.int (1 : Int32)), (.int p1)])) t
    refine XS.iand X0.here hx rfl (hb hby d1_2) rfl ?_
    exact k
  refine WP.st bk2 ?_
  clear bk2
  by_cases hc1 : (p1 &&& (1 : Int32)) = (0 : Int32)
  · skip
    have bk3 : ∀ t, Steps p.tables e below (s₁.setTop (mkF m 17 #[.val (.int p1)] [(.int ((((p1.toUInt32 >>> ((1 : Int32) &&& 31).toUInt32).toInt32) &&& (255 : Int32)).toUInt32.toUInt16.toUInt32.toInt32))])) t → Steps p.tables e below (s₁.setTop (mkF m 3 #[.val (.int p1)] [(.int (p1 &&& (1 : Int32)))])) t := fun t k => by
      refine XS.ifYes X0.here hx rfl (pc0 := 3) (pc' := 9) rfl (hb hby d1_3) rfl ((if0 _ _).trans (teq hc1).1) (by decide) (by decide) ?_
      show Steps p.tables e below (s₁.setTop (mkF m 9 #[.val (.int p1)] [])) t
      refine XS.iloadN X0.here hx rfl (hb hby d1_9) rfl ?_
      show Steps p.tables e below (s₁.setTop (mkF m 10 #[.val (.int p1)] [(.int p1)])) t
      refine XS.iconst X0.here hx rfl (hb hby d1_10) ?_
      show Steps p.tables e below (s₁.setTop (mkF m 11 #[.val (.int p1)] [(.int (1 : Int32)), (.int p1)])) t
      refine XS.iushr X0.here hx rfl (hb hby d1_11) rfl ?_
      show Steps p.tables e below (s₁.setTop (mkF m 12 #[.val (.int p1)] [(.int ((p1.toUInt32 >>> ((1 : Int32) &&& 31).toUInt32).toInt32))])) t
      refine XS.sipush X0.here hx rfl (hb hby d1_12) ?_
      show Steps p.tables e below (s₁.setTop (mkF m 15 #[.val (.int p1)] [(.int (255 : Int32)), (.int ((p1.toUInt32 >>> ((1 : Int32) &&& 31).toUInt32).toInt32))])) t
      refine XS.iand X0.here hx rfl (hb hby d1_15) rfl ?_
      show Steps p.tables e below (s₁.setTop (mkF m 16 #[.val (.int p1)] [(.int (((p1.toUInt32 >>> ((1 : Int32) &&& 31).toUInt32).toInt32) &&& (255 : Int32)))])) t
      refine XS.i2c X0.here hx rfl (hb hby d1_16) rfl ?_
      exact k
    refine WP.st bk3 ?_
    clear bk3
    subst hG
    obtain ⟨fs, hr, hrun, hended, hW, hsame⟩ := X0.leave (v := some (.int (nar .char ((((p1.toUInt32 >>> ((1 : Int32) &&& 31).toUInt32).toInt32) &&& (255 : Int32)).toUInt32.toUInt16.toUInt32.toInt32)))) (fun h => by rw [Bd.returns] at h; cases h)
    refine WP.fin ⟨_, _, ?_, hrun, hended, _, _, rfl, ?_, ⟨_, rfl⟩, hW, hsame.mono (by decide) (by decide)⟩
    · exact retN X0 hx (t := .char) Bd.returns (by simp) (hb hby d1_17) hr
    · show Q1 Z p1 h0 n0 _ s₁.heap _
      rw [e0]
      exact ⟨(by simp [own_ch, hc1]), NF, rfl⟩
  · skip
    have bk4 : ∀ t, Steps p.tables e below (s₁.setTop (mkF m 8 #[.val (.int p1)] [(.int (36 : Int32))])) t → Steps p.tables e below (s₁.setTop (mkF m 3 #[.val (.int p1)] [(.int (p1 &&& (1 : Int32)))])) t := fun t k => by
      refine XS.ifNo X0.here hx rfl (hb hby d1_3) rfl ((if0 _ _).trans (feq hc1).1) ?_
      show Steps p.tables e below (s₁.setTop (mkF m 6 #[.val (.int p1)] [])) t
      refine XS.bipush X0.here hx rfl (hb hby d1_6) ?_
      exact k
    refine WP.st bk4 ?_
    clear bk4
    subst hG
    obtain ⟨fs, hr, hrun, hended, hW, hsame⟩ := X0.leave (v := some (.int (36 : Int32))) (fun h => by rw [Bd.returns] at h; cases h)
    refine WP.fin ⟨_, _, ?_, hrun, hended, _, _, rfl, ?_, ⟨_, rfl⟩, hW, hsame.mono (by decide) (by decide)⟩
    · exact retN X0 hx (t := .char) Bd.returns (by simp) (hb hby d1_8) hr
    · show Q1 Z p1 h0 n0 _ s₁.heap _
      rw [e0]
      exact ⟨(by simp [own_ch, hc1]), NF, rfl⟩
theorem ef_8 (m : MethodId) (a1 : Addr) : entryFrame m #[(.ref a1)] 1 = mkF m 0 #[.val (.ref a1)] [] := by first | (simp [entryFrame, mkF, argsToLocals, Value.category]; done) | rfl
theorem pn_1 : plainName "com/example/otayori/otayori/broker/Topics" = true := by first | (simp [plainName, overriddenIn]; done) | decide +kernel
theorem d8_0 : decode prog_11_method_4_code 0 = .ok (.aload_n 0, 1) := by decide +kernel
theorem d8_1 : decode prog_11_method_4_code 1 = .ok (.iconst 0, 1) := by decide +kernel
theorem d8_2 : decode prog_11_method_4_code 2 = .ok (.invokevirtual 30, 3) := by decide +kernel
theorem pd_0 : parseMethodDescriptor "(I)C" = some ⟨[.int], some .char⟩ := by decide +kernel
theorem d8_5 : decode prog_11_method_4_code 5 = .ok (.bipush 36, 2) := by decide +kernel
theorem d8_7 : decode prog_11_method_4_code 7 = .ok (.if_icmp .ne 7, 3) := by decide +kernel
theorem d8_10 : decode prog_11_method_4_code 10 = .ok (.iconst 1, 1) := by decide +kernel
theorem d8_11 : decode prog_11_method_4_code 11 = .ok (.goto 4, 3) := by decide +kernel
theorem d8_15 : decode prog_11_method_4_code 15 = .ok (.ireturn, 1) := by decide +kernel
theorem d8_14 : decode prog_11_method_4_code 14 = .ok (.iconst 0, 1) := by decide +kernel
def Q8 (Z : State) (a1 : Addr) (t : Addr) (kb : ClassId) (N2 : Int32) (cs : List Int32) (gC : Int32) (gF : Value) (h0 : Heap) (n0 : Nat) (v : Option Value) (h : Heap) (L : List Loc) : Prop := v = some (.int (if cs.getD 0 0 = 36 then (1 : Int32) else 0)) ∧ Fr n0 L ∧ h = h0
set_option maxRecDepth 65536 in
set_option maxHeartbeats 40000000 in
theorem rm8 (l : Launch) (Z : State) (a0 : Array Value) (hw : ∀ d ∈ tables_1, d.before a0 Z = true) (ws : List Jvm.Cond) (a1 : Addr) (t : Addr) (kb : ClassId) (N2 : Int32) (cs : List Int32) (gC : Int32) (gF : Value) (h0 : Heap) (n0 : Nat) (Z0 : n0 ≤ h0.size) (E_a1 : Exa Z h0 a1 "java/lang/String") (F_a1_value : Fld Z h0 a1 "java/lang/String" "value" "[B" (.ref t)) (F_a1_coder : Fld Z h0 a1 "java/lang/String" "coder" "B" (.int 0)) (V_t : Arv Z h0 t kb .byte N2 ((cs.map (fun c => c.toInt8.toInt32)).map Value.int) (.int 0)) (hp : ∀ c ∈ cs, ¬ c < 0 ∧ ¬ (255 : Int32) < c) (hN : N2 = Int32.ofNat cs.length) (hl0 : 0 < cs.length) (hl2 : cs.length ≤ 4000) (OLD : Old Z n0 h0) (O2 : Sta Z Z.heap "java/lang/String" "COMPACT_STRINGS" "Z" (.int gC)) (hz : ¬ gC = (0 : Int32)) (O4 : Sta Z Z.heap "jdk/internal/util/Preconditions" "SIOOBE_FORMATTER" "Ljava/util/function/BiFunction;" gF) (rf : gF.isRef = true) :
    MetFree l (⟨"com/example/otayori/otayori/broker/Topics", "isDollarTopic", "(Ljava/lang/String;)Z"⟩ : MethodName) (head1 (Jvm.Cond.code (⟨"com/example/otayori/otayori/broker/Topics", "isDollarTopic", "(Ljava/lang/String;)Z"⟩ : MethodName) prog_11_method_4_code 1 (some .boolean) :: ws) ({ frames := 4, cells := 0, slots := 0, locals := 53 } : Room)) (fun a U => a = #[(.ref a1)] ∧ Z.Warmed39 U.vm ∧ U.heap = h0) (fun _ _ _ _ _ => True) (fun _ U o U' => ∃ v L, o = .returned v ∧ Q8 Z a1 t kb N2 cs gC gF h0 n0 v U'.heap L ∧ FrameEnd U o U' L ({ frames := 4, cells := 0, slots := 0, locals := 53 } : Room).cells ({ frames := 4, cells := 0, slots := 0, locals := 53 } : Room).slots) := by
  refine MetFree.of_bodySF (plainFor_of_name pn_1) hisR ?_
  intro p e s m args below meth c s₁ Bd hml0 hP hK
  obtain ⟨rfl, hZ, hh⟩ := hP
  have hx := Bd.exec
  have hby := Bd.bytes
  have hml : c.maxLocals = 1 := hml0
  have hown : s.vm.findClass "com/example/otayori/otayori/broker/Topics" = some m.cls := findClass_of_methodNamed Bd.named
  have hnm := (name_of_methodNamed Bd.named Bd.method).1
  have X0 : Stand p l e ({ frames := 4, cells := 0, slots := 0, locals := 53 } : Room) s m #[(.ref a1)] below meth c s₁ [] 0 0 := Stand.of_body Bd
  have e0 : s₁.heap = h0 := by rw [← hh, Bd.state]; rfl
  have NF := Fr.nil n0
  refine WP.go ?_
  refine WP.cast (ef_8 m a1) ?_
  refine WP.name ?_
  intro G hG
  have bk5 : ∀ t, Steps p.tables e below (s₁.setTop (mkF m 2 #[.val (.ref a1)] [(.int (0 : Int32)), (.ref a1)])) t → Steps p.tables e below (s₁.setTop (mkF m 0 #[.val (.ref a1)] [])) t := fun t k => by
    refine XS.aloadN X0.here hx rfl (hb hby d8_0) rfl rfl ?_
    show Steps p.tables e below (s₁.setTop (mkF m 1 #[.val (.ref a1)] [(.ref a1)])) t
    refine XS.iconst X0.here hx rfl (hb hby d8_1) ?_
    exact k
  refine WP.st bk5 ?_
  clear bk5
  have hcd : StrChars.Road.CodA cs 0 N2 ((cs.map (fun c => c.toInt8.toInt32)).map Value.int) := by rw [hN]; exact StrChars.Road.codOf rfl (fun x hx => (hp x hx).2)
  obtain ⟨cq6, kq6, q6a, q6b, q6c⟩ := isOf hZ e0 E_a1
  obtain ⟨_, _, ⟨T6, L6, k6, n6⟩, -, X6, ⟨Lc6, hQ6, l6, y6, z6⟩, st6⟩ := X0.virtualBack hx (y := (⟨"java/lang/String", "charAt", "(I)C"⟩ : MethodName)) (z := (⟨"java/lang/String", "charAt", "(I)C"⟩ : MethodName)) hown (mvT hZ (hw _ (List.mem_of_getElem? (i := 38) rfl))) (mvT hZ (hw _ (List.mem_of_getElem? (i := 39) rfl))) (notFace_of_selects (args := #[]) (mvT hZ (hw _ (List.mem_of_getElem? (i := 41) rfl)))) (mvT hZ (hw _ (List.mem_of_getElem? (i := 41) rfl))) (mvT hZ (hw _ (List.mem_of_getElem? (i := 40) rfl))) (by decide) (StrChars.Road.chN (W := 0) hZ (own_wsChN hw) (kI := 4) (hw _ (List.mem_of_getElem? (i := 5) rfl)) E_a1 F_a1_value F_a1_coder V_t hcd (own_up _ hp) (O2.ext OLD.2) hz (O4.ext OLD.2) rf hl2 (i := 0) hl0 (j := (0 : Int32)) rfl (by decide) (by decide)) q6a q6c (g := (mkF m 2 #[.val (.ref a1)] [(.int (0 : Int32)), (.ref a1)])) rfl (by rw [hml]; rfl) (Steps.refl _) (argsL := [(.int (0 : Int32))]) (rest := []) (lenOf pd_0 rfl) rfl (by show 2 * 0 + _ ≤ _; exact Nat.le_of_eq rfl) (hb hby d8_2) (fun _ _ => ⟨rfl, e0, (by decide : 0 + 0 ≤ _), (by decide : 0 + 0 ≤ _)⟩)
  dsimp only [Pt.U, Pt.locs, Pt.cells, Pt.slots] at X6 l6 y6 z6 st6 hQ6
  subst l6 y6 z6
  obtain ⟨rfl, rfl, e6⟩ := hQ6
  refine WP.tr st6 ?_
  clear st6
  replace NF := Fr.app NF (Fr.nil n0)
  show WP p.tables e below _ T6 (mkF m 5 #[.val (.ref a1)] [(.int (cs.getD 0 0))])
  have bk8 : ∀ t, Steps p.tables e below (T6.setTop (mkF m 7 #[.val (.ref a1)] [(.int (36 : Int32)), (.int (cs.getD 0 0))])) t → Steps p.tables e below (T6.setTop (mkF m 5 #[.val (.ref a1)] [(.int (cs.getD 0 0))])) t := fun t k => by
    refine XS.bipush X6.here hx rfl (hb hby d8_5) ?_
    exact k
  refine WP.st bk8 ?_
  clear bk8
  by_cases hc7 : (cs.getD 0 0) = (36 : Int32)
  · skip
    have bk9 : ∀ t, Steps p.tables e below (T6.setTop (mkF m 15 #[.val (.ref a1)] [(.int (1 : Int32))])) t → Steps p.tables e below (T6.setTop (mkF m 7 #[.val (.ref a1)] [(.int (36 : Int32)), (.int (cs.getD 0 0))])) t := fun t k => by
      refine XS.icmpNo X6.here hx rfl (hb hby d8_7) rfl (teq hc7).2 ?_
      show Steps p.tables e below (T6.setTop (mkF m 10 #[.val (.ref a1)] [])) t
      refine XS.iconst X6.here hx rfl (hb hby d8_10) ?_
      show Steps p.tables e below (T6.setTop (mkF m 11 #[.val (.ref a1)] [(.int (1 : Int32))])) t
      refine XS.goto X6.here hx rfl (pc0 := 11) (pc' := 15) rfl (hb hby d8_11) (by decide) (by decide) ?_
      exact k
    refine WP.st bk9 ?_
    clear bk9
    subst hG
    obtain ⟨fs, hr, hrun, hended, hW, hsame⟩ := X6.leave (v := some (.int (1 : Int32))) (fun h => by rw [Bd.returns] at h; cases h)
    refine WP.fin ⟨_, _, ?_, hrun, hended, _, _, rfl, ?_, ⟨_, rfl⟩, hW, hsame.mono (by decide) (by decide)⟩
    · exact retN X6 hx (t := .boolean) Bd.returns (by simp) (hb hby d8_15) hr
    · show Q8 Z a1 t kb N2 cs gC gF h0 n0 _ T6.heap _
      rw [e6]
      exact ⟨(by simp only [hc7]; rfl), NF, rfl⟩
  · skip
    have bk10 : ∀ t, Steps p.tables e below (T6.setTop (mkF m 15 #[.val (.ref a1)] [(.int (0 : Int32))])) t → Steps p.tables e below (T6.setTop (mkF m 7 #[.val (.ref a1)] [(.int (36 : Int32)), (.int (cs.getD 0 0))])) t := fun t k => by
      refine XS.icmpYes X6.here hx rfl (pc0 := 7) (pc' := 14) rfl (hb hby d8_7) rfl (feq hc7).2 (by decide) (by decide) ?_
      show Steps p.tables e below (T6.setTop (mkF m 14 #[.val (.ref a1)] [])) t
      refine XS.iconst X6.here hx rfl (hb hby d8_14) ?_
      exact k
    refine WP.st bk10 ?_
    clear bk10
    subst hG
    obtain ⟨fs, hr, hrun, hended, hW, hsame⟩ := X6.leave (v := some (.int (0 : Int32))) (fun h => by rw [Bd.returns] at h; cases h)
    refine WP.fin ⟨_, _, ?_, hrun, hended, _, _, rfl, ?_, ⟨_, rfl⟩, hW, hsame.mono (by decide) (by decide)⟩
    · exact retN X6 hx (t := .boolean) Bd.returns (by simp) (hb hby d8_15) hr
    · show Q8 Z a1 t kb N2 cs gC gF h0 n0 _ T6.heap _
      rw [e6]
      exact ⟨(by simp only [hc7]; rfl), NF, rfl⟩
theorem ef_0 (m : MethodId) (p1 : Int32) (p2 : Int32) (p3 : Int32) (p4 : Int32) : entryFrame m #[(.int p1), (.int p2), (.int p3), (.int p4)] maxLocals = mkF m 0 #[.val (.int p1), .val (.int p2), .val (.int p3), .val (.int p4), .unset, .unset, .unset, .unset, .unset, .unset, .unset, .unset, .unset] [] := by first | (simp [entryFrame, mkF, argsToLocals, Value.category, maxLocals]; done) | rfl
theorem pd_1 : parseMethodDescriptor "([C)V" = some ⟨[(.array .char)], none⟩ := by decide +kernel
theorem pd_2 : parseMethodDescriptor "(Ljava/lang/String;)Z" = some ⟨[(.object "java/lang/String")], some .boolean⟩ := by decide +kernel
def Q0 (Z : State) (p1 : Int32) (p2 : Int32) (p3 : Int32) (p4 : Int32) (gC : Int32) (gF : Value) (h0 : Heap) (n0 : Nat) (v : Option Value) (h : Heap) (L : List Loc) : Prop := v = some (.int 1) ∧ Fr n0 L
set_option maxRecDepth 65536 in
set_option maxHeartbeats 40000000 in
theorem rm0 (l : Launch) (Z : State) (a0 : Array Value) (hw : ∀ d ∈ tables_1, d.before a0 Z = true) (ws : List Jvm.Cond) (p1 : Int32) (p2 : Int32) (p3 : Int32) (p4 : Int32) (gC : Int32) (gF : Value) (h0 : Heap) (n0 : Nat) (Z0 : n0 ≤ h0.size) (OLD : Old Z n0 h0) (O2 : Sta Z Z.heap "java/lang/String" "COMPACT_STRINGS" "Z" (.int gC)) (hz : ¬ gC = (0 : Int32)) (O4 : Sta Z Z.heap "jdk/internal/util/Preconditions" "SIOOBE_FORMATTER" "Ljava/util/function/BiFunction;" gF) (rf : gF.isRef = true) :
    MetFree l x (head1 (Jvm.Cond.code x code maxLocals ret :: ws) room_1) (fun a U => a = #[(.int p1), (.int p2), (.int p3), (.int p4)] ∧ Z.Warmed39 U.vm ∧ U.heap = h0) (fun _ _ _ _ _ => True) (fun _ U o U' => ∃ v L, o = .returned v ∧ Q0 Z p1 p2 p3 p4 gC gF h0 n0 v U'.heap L ∧ FrameEnd U o U' L room_1.cells room_1.slots) := by
  refine MetFree.of_bodySF (plainFor_of_name pn_0) hisR ?_
  intro p e s m args below meth c s₁ Bd hml0 hP hK
  obtain ⟨rfl, hZ, hh⟩ := hP
  have hx := Bd.exec
  have hby := Bd.bytes
  have hml : c.maxLocals = 13 := hml0
  have hown : s.vm.findClass "com/example/otayori/otayori/broker/TopicsIsDollarTopicPinLaw" = some m.cls := findClass_of_methodNamed Bd.named
  have hnm := (name_of_methodNamed Bd.named Bd.method).1
  have X0 : Stand p l e room_1 s m #[(.int p1), (.int p2), (.int p3), (.int p4)] below meth c s₁ [] 0 0 := Stand.of_body Bd
  have e0 : s₁.heap = h0 := by rw [← hh, Bd.state]; rfl
  have NF := Fr.nil n0
  refine WP.go ?_
  refine WP.cast (ef_0 m p1 p2 p3 p4) ?_
  refine WP.name ?_
  intro G hG
  have bk11 : ∀ t, Steps p.tables e below (s₁.setTop (mkF m 1 #[.val (.int p1), .val (.int p2), .val (.int p3), .val (.int p4), .unset, .unset, .unset, .unset, .unset, .unset, .unset, .unset, .unset] [(.int p1)])) t → Steps p.tables e below (s₁.setTop (mkF m 0 #[.val (.int p1), .val (.int p2), .val (.int p3), .val (.int p4), .unset, .unset, .unset, .unset, .unset, .unset, .unset, .unset, .unset] [])) t := fun t k => by
    refine XS.iloadN X0.here hx rfl (hb hby at_0) rfl ?_
    exact k
  refine WP.st bk11 ?_
  clear bk11
  obtain ⟨_, _, ⟨T12, L12, k12, n12⟩, -, X12, ⟨Lc12, hQ12, l12, y12, z12⟩, st12⟩ := Jvm.LawKit.callS X0 hx (y := (⟨"com/example/otayori/otayori/broker/TopicsIsDollarTopicPinLaw", "ch", "(I)C"⟩ : MethodName)) hown (mvT hZ (hw _ (List.mem_of_getElem? (i := 0) rfl))) (mvT hZ (hw _ (List.mem_of_getElem? (i := 1) rfl))) (mvT hZ (hw _ (List.mem_of_getElem? (i := 2) rfl))) (mvT hZ (hw _ (List.mem_of_getElem? (i := 3) rfl))) (by decide) (backOf (W := 0) (rm1 l Z a0 hw [] p1 h0 n0 Z0 ) hZ (hw _ (List.mem_of_getElem? (i := 3) rfl)) (hw _ (List.mem_of_getElem? (i := 2) rfl)) (by decide) (by decide)) (g := (mkF m 1 #[.val (.int p1), .val (.int p2), .val (.int p3), .val (.int p4), .unset, .unset, .unset, .unset, .unset, .unset, .unset, .unset, .unset] [(.int p1)])) rfl (by rw [hml]; rfl) (argsL := [(.int p1)]) (rest := []) (lenOf pd_0 rfl) rfl (by show 2 * 0 + _ ≤ _; exact Nat.le_of_eq rfl) (hb hby at_1) (fun _ _ => ⟨rfl, e0, (by decide : 0 + 0 ≤ _), (by decide : 0 + 0 ≤ _)⟩)
  dsimp only [Pt.U, Pt.locs, Pt.cells, Pt.slots] at X12 l12 y12 z12 st12 hQ12
  subst l12 y12 z12
  obtain ⟨rfl, Nq12, Kq12⟩ := hQ12
  replace NF := Fr.app NF Nq12
  clear Nq12
  refine WP.st st12 ?_
  clear st12
  replace Kq12 := Kq12.trans (rfl : h0 = h0)
  show WP p.tables e below _ T12 (mkF m 4 #[.val (.int p1), .val (.int p2), .val (.int p3), .val (.int p4), .unset, .unset, .unset, .unset, .unset, .unset, .unset, .unset, .unset] [(.int (own_ch p1))])
  obtain ⟨c0, ec0, hb0⟩ : ∃ z, (own_ch p1) = z ∧ own_byte z := ⟨_, rfl, own_ch_byte _⟩
  rw [ec0]
  show WP p.tables e below _ T12 (mkF m 4 #[.val (.int p1), .val (.int p2), .val (.int p3), .val (.int p4), .unset, .unset, .unset, .unset, .unset, .unset, .unset, .unset, .unset] [(.int c0)])
  have bk13 : ∀ t, Steps p.tables e below (T12.setTop (mkF m 7 #[.val (.int p1), .val (.int p2), .val (.int p3), .val (.int p4), .val (.int c0), .unset, .unset, .unset, .unset, .unset, .unset, .unset, .unset] [(.int p2)])) t → Steps p.tables e below (T12.setTop (mkF m 4 #[.val (.int p1), .val (.int p2), .val (.int p3), .val (.int p4), .unset, .unset, .unset, .unset, .unset, .unset, .unset, .unset, .unset] [(.int c0)])) t := fun t k => by
    refine XS.istore X12.here hx rfl (hb hby at_4) rfl (l' := #[.val (.int p1), .val (.int p2), .val (.int p3), .val (.int p4), .val (.int c0), .unset, .unset, .unset, .unset, .unset, .unset, .unset, .unset]) rfl ?_
    show Steps p.tables e below (T12.setTop (mkF m 6 #[.val (.int p1), .val (.int p2), .val (.int p3), .val (.int p4), .val (.int c0), .unset, .unset, .unset, .unset, .unset, .unset, .unset, .unset] [])) t
    refine XS.iloadN X12.here hx rfl (hb hby at_6) rfl ?_
    exact k
  refine WP.st bk13 ?_
  clear bk13
  obtain ⟨_, _, ⟨T14, L14, k14, n14⟩, -, X14, ⟨Lc14, hQ14, l14, y14, z14⟩, st14⟩ := Jvm.LawKit.callS X12 hx (y := (⟨"com/example/otayori/otayori/broker/TopicsIsDollarTopicPinLaw", "ch", "(I)C"⟩ : MethodName)) hown (mvT hZ (hw _ (List.mem_of_getElem? (i := 0) rfl))) (mvT hZ (hw _ (List.mem_of_getElem? (i := 1) rfl))) (mvT hZ (hw _ (List.mem_of_getElem? (i := 2) rfl))) (mvT hZ (hw _ (List.mem_of_getElem? (i := 3) rfl))) (by decide) (backOf (W := 0) (rm1 l Z a0 hw [] p2 h0 n0 Z0 ) hZ (hw _ (List.mem_of_getElem? (i := 3) rfl)) (hw _ (List.mem_of_getElem? (i := 2) rfl)) (by decide) (by decide)) (g := (mkF m 7 #[.val (.int p1), .val (.int p2), .val (.int p3), .val (.int p4), .val (.int c0), .unset, .unset, .unset, .unset, .unset, .unset, .unset, .unset] [(.int p2)])) rfl (by rw [hml]; rfl) (argsL := [(.int p2)]) (rest := []) (lenOf pd_0 rfl) rfl (by show 2 * 0 + _ ≤ _; exact Nat.le_of_eq rfl) (hb hby at_7) (fun _ _ => ⟨rfl, Kq12, (by decide : 0 + 0 ≤ _), (by decide : 0 + 0 ≤ _)⟩)
  dsimp only [Pt.U, Pt.locs, Pt.cells, Pt.slots] at X14 l14 y14 z14 st14 hQ14
  subst l14 y14 z14
  obtain ⟨rfl, Nq14, Kq14⟩ := hQ14
  replace NF := Fr.app NF Nq14
  clear Nq14
  refine WP.st st14 ?_
  clear st14
  replace Kq14 := Kq14.trans (rfl : h0 = h0)
  show WP p.tables e below _ T14 (mkF m 10 #[.val (.int p1), .val (.int p2), .val (.int p3), .val (.int p4), .val (.int c0), .unset, .unset, .unset, .unset, .unset, .unset, .unset, .unset] [(.int (own_ch p2))])
  obtain ⟨c1, ec1, hb1⟩ : ∃ z, (own_ch p2) = z ∧ own_byte z := ⟨_, rfl, own_ch_byte _⟩
  rw [ec1]
  show WP p.tables e below _ T14 (mkF m 10 #[.val (.int p1), .val (.int p2), .val (.int p3), .val (.int p4), .val (.int c0), .unset, .unset, .unset, .unset, .unset, .unset, .unset, .unset] [(.int c1)])
  have bk15 : ∀ t, Steps p.tables e below (T14.setTop (mkF m 13 #[.val (.int p1), .val (.int p2), .val (.int p3), .val (.int p4), .val (.int c0), .val (.int c1), .unset, .unset, .unset, .unset, .unset, .unset, .unset] [(.int p3)])) t → Steps p.tables e below (T14.setTop (mkF m 10 #[.val (.int p1), .val (.int p2), .val (.int p3), .val (.int p4), .val (.int c0), .unset, .unset, .unset, .unset, .unset, .unset, .unset, .unset] [(.int c1)])) t := fun t k => by
    refine XS.istore X14.here hx rfl (hb hby at_10) rfl (l' := #[.val (.int p1), .val (.int p2), .val (.int p3), .val (.int p4), .val (.int c0), .val (.int c1), .unset, .unset, .unset, .unset, .unset, .unset, .unset]) rfl ?_
    show Steps p.tables e below (T14.setTop (mkF m 12 #[.val (.int p1), .val (.int p2), .val (.int p3), .val (.int p4), .val (.int c0), .val (.int c1), .unset, .unset, .unset, .unset, .unset, .unset, .unset] [])) t
    refine XS.iloadN X14.here hx rfl (hb hby at_12) rfl ?_
    exact k
  refine WP.st bk15 ?_
  clear bk15
  obtain ⟨_, _, ⟨T16, L16, k16, n16⟩, -, X16, ⟨Lc16, hQ16, l16, y16, z16⟩, st16⟩ := Jvm.LawKit.callS X14 hx (y := (⟨"com/example/otayori/otayori/broker/TopicsIsDollarTopicPinLaw", "ch", "(I)C"⟩ : MethodName)) hown (mvT hZ (hw _ (List.mem_of_getElem? (i := 0) rfl))) (mvT hZ (hw _ (List.mem_of_getElem? (i := 1) rfl))) (mvT hZ (hw _ (List.mem_of_getElem? (i := 2) rfl))) (mvT hZ (hw _ (List.mem_of_getElem? (i := 3) rfl))) (by decide) (backOf (W := 0) (rm1 l Z a0 hw [] p3 h0 n0 Z0 ) hZ (hw _ (List.mem_of_getElem? (i := 3) rfl)) (hw _ (List.mem_of_getElem? (i := 2) rfl)) (by decide) (by decide)) (g := (mkF m 13 #[.val (.int p1), .val (.int p2), .val (.int p3), .val (.int p4), .val (.int c0), .val (.int c1), .unset, .unset, .unset, .unset, .unset, .unset, .unset] [(.int p3)])) rfl (by rw [hml]; rfl) (argsL := [(.int p3)]) (rest := []) (lenOf pd_0 rfl) rfl (by show 2 * 0 + _ ≤ _; exact Nat.le_of_eq rfl) (hb hby at_13) (fun _ _ => ⟨rfl, Kq14, (by decide : 0 + 0 ≤ _), (by decide : 0 + 0 ≤ _)⟩)
  dsimp only [Pt.U, Pt.locs, Pt.cells, Pt.slots] at X16 l16 y16 z16 st16 hQ16
  subst l16 y16 z16
  obtain ⟨rfl, Nq16, Kq16⟩ := hQ16
  replace NF := Fr.app NF Nq16
  clear Nq16
  refine WP.st st16 ?_
  clear st16
  replace Kq16 := Kq16.trans (rfl : h0 = h0)
  show WP p.tables e below _ T16 (mkF m 16 #[.val (.int p1), .val (.int p2), .val (.int p3), .val (.int p4), .val (.int c0), .val (.int c1), .unset, .unset, .unset, .unset, .unset, .unset, .unset] [(.int (own_ch p3))])
  obtain ⟨c2, ec2, hb2⟩ : ∃ z, (own_ch p3) = z ∧ own_byte z := ⟨_, rfl, own_ch_byte _⟩
  rw [ec2]
  show WP p.tables e below _ T16 (mkF m 16 #[.val (.int p1), .val (.int p2), .val (.int p3), .val (.int p4), .val (.int c0), .val (.int c1), .unset, .unset, .unset, .unset, .unset, .unset, .unset] [(.int c2)])
  have bk17 : ∀ t, Steps p.tables e below (T16.setTop (mkF m 19 #[.val (.int p1), .val (.int p2), .val (.int p3), .val (.int p4), .val (.int c0), .val (.int c1), .val (.int c2), .unset, .unset, .unset, .unset, .unset, .unset] [(.int p4)])) t → Steps p.tables e below (T16.setTop (mkF m 16 #[.val (.int p1), .val (.int p2), .val (.int p3), .val (.int p4), .val (.int c0), .val (.int c1), .unset, .unset, .unset, .unset, .unset, .unset, .unset] [(.int c2)])) t := fun t k => by
    refine XS.istore X16.here hx rfl (hb hby at_16) rfl (l' := #[.val (.int p1), .val (.int p2), .val (.int p3), .val (.int p4), .val (.int c0), .val (.int c1), .val (.int c2), .unset, .unset, .unset, .unset, .unset, .unset]) rfl ?_
    show Steps p.tables e below (T16.setTop (mkF m 18 #[.val (.int p1), .val (.int p2), .val (.int p3), .val (.int p4), .val (.int c0), .val (.int c1), .val (.int c2), .unset, .unset, .unset, .unset, .unset, .unset] [])) t
    refine XS.iloadN X16.here hx rfl (hb hby at_18) rfl ?_
    exact k
  refine WP.st bk17 ?_
  clear bk17
  obtain ⟨_, _, ⟨T18, L18, k18, n18⟩, -, X18, ⟨Lc18, hQ18, l18, y18, z18⟩, st18⟩ := Jvm.LawKit.callS X16 hx (y := (⟨"com/example/otayori/otayori/broker/TopicsIsDollarTopicPinLaw", "ch", "(I)C"⟩ : MethodName)) hown (mvT hZ (hw _ (List.mem_of_getElem? (i := 0) rfl))) (mvT hZ (hw _ (List.mem_of_getElem? (i := 1) rfl))) (mvT hZ (hw _ (List.mem_of_getElem? (i := 2) rfl))) (mvT hZ (hw _ (List.mem_of_getElem? (i := 3) rfl))) (by decide) (backOf (W := 0) (rm1 l Z a0 hw [] p4 h0 n0 Z0 ) hZ (hw _ (List.mem_of_getElem? (i := 3) rfl)) (hw _ (List.mem_of_getElem? (i := 2) rfl)) (by decide) (by decide)) (g := (mkF m 19 #[.val (.int p1), .val (.int p2), .val (.int p3), .val (.int p4), .val (.int c0), .val (.int c1), .val (.int c2), .unset, .unset, .unset, .unset, .unset, .unset] [(.int p4)])) rfl (by rw [hml]; rfl) (argsL := [(.int p4)]) (rest := []) (lenOf pd_0 rfl) rfl (by show 2 * 0 + _ ≤ _; exact Nat.le_of_eq rfl) (hb hby at_19) (fun _ _ => ⟨rfl, Kq16, (by decide : 0 + 0 ≤ _), (by decide : 0 + 0 ≤ _)⟩)
  dsimp only [Pt.U, Pt.locs, Pt.cells, Pt.slots] at X18 l18 y18 z18 st18 hQ18
  subst l18 y18 z18
  obtain ⟨rfl, Nq18, Kq18⟩ := hQ18
  replace NF := Fr.app NF Nq18
  clear Nq18
  refine WP.st st18 ?_
  clear st18
  replace Kq18 := Kq18.trans (rfl : h0 = h0)
  show WP p.tables e below _ T18 (mkF m 22 #[.val (.int p1), .val (.int p2), .val (.int p3), .val (.int p4), .val (.int c0), .val (.int c1), .val (.int c2), .unset, .unset, .unset, .unset, .unset, .unset] [(.int (own_ch p4))])
  obtain ⟨c3, ec3, hb3⟩ : ∃ z, (own_ch p4) = z ∧ own_byte z := ⟨_, rfl, own_ch_byte _⟩
  rw [ec3]
  show WP p.tables e below _ T18 (mkF m 22 #[.val (.int p1), .val (.int p2), .val (.int p3), .val (.int p4), .val (.int c0), .val (.int c1), .val (.int c2), .unset, .unset, .unset, .unset, .unset, .unset] [(.int c3)])
  have bk19 : ∀ t, Steps p.tables e below (T18.setTop (mkF m 24 #[.val (.int p1), .val (.int p2), .val (.int p3), .val (.int p4), .val (.int c0), .val (.int c1), .val (.int c2), .val (.int c3), .unset, .unset, .unset, .unset, .unset] [])) t → Steps p.tables e below (T18.setTop (mkF m 22 #[.val (.int p1), .val (.int p2), .val (.int p3), .val (.int p4), .val (.int c0), .val (.int c1), .val (.int c2), .unset, .unset, .unset, .unset, .unset, .unset] [(.int c3)])) t := fun t k => by
    refine XS.istore X18.here hx rfl (hb hby at_22) rfl (l' := #[.val (.int p1), .val (.int p2), .val (.int p3), .val (.int p4), .val (.int c0), .val (.int c1), .val (.int c2), .val (.int c3), .unset, .unset, .unset, .unset, .unset]) rfl ?_
    exact k
  refine WP.st bk19 ?_
  clear bk19
  obtain ⟨T20, h20, X20, e20, E20, A20, D20, -, st20⟩ := newO X18 hx hZ hown (hw _ (List.mem_of_getElem? (i := 4) rfl)) (hw _ (List.mem_of_getElem? (i := 5) rfl)) (hw _ (List.mem_of_getElem? (i := 6) rfl)) Kq18 (g := (mkF m 24 #[.val (.int p1), .val (.int p2), .val (.int p3), .val (.int p4), .val (.int c0), .val (.int c1), .val (.int c2), .val (.int c3), .unset, .unset, .unset, .unset, .unset] [])) rfl (hb hby at_24) (by decide) (by decide)
  obtain ⟨b20, g20⟩ : ∃ z, z = h0.size := ⟨_, rfl⟩
  rw [← g20] at A20 D20 st20
  refine WP.st st20 ?_
  clear st20
  have g_b20 : n0 ≤ b20 := Nat.le_trans Z0 (Nat.le_of_eq g20.symm)
  replace OLD := OLD.ext E20
  replace Z0 := Nat.le_trans Z0 E20.1
  have E_b20 := A20
  have F_b20_coder : Fld Z h20 b20 "java/lang/String" "coder" "B" (.int (0 : Int32)) := D20 (Or.inr (hw _ (List.mem_of_getElem? (i := 31) rfl))) (ty := .byte) (by decide)
  have F_b20_value : Fld Z h20 b20 "java/lang/String" "value" "[B" .null := D20 (Or.inr (hw _ (List.mem_of_getElem? (i := 33) rfl))) (ty := (.array .byte)) (by decide)
  clear D20 A20
  show WP p.tables e below _ T20 (mkF m 27 #[.val (.int p1), .val (.int p2), .val (.int p3), .val (.int p4), .val (.int c0), .val (.int c1), .val (.int c2), .val (.int c3), .unset, .unset, .unset, .unset, .unset] [(.ref b20)])
  have bk21 : ∀ t, Steps p.tables e below (T20.setTop (mkF m 29 #[.val (.int p1), .val (.int p2), .val (.int p3), .val (.int p4), .val (.int c0), .val (.int c1), .val (.int c2), .val (.int c3), .unset, .unset, .unset, .unset, .unset] [(.int (1 : Int32)), (.ref b20), (.ref b20)])) t → Steps p.tables e below (T20.setTop (mkF m 27 #[.val (.int p1), .val (.int p2), .val (.int p3), .val (.int p4), .val (.int c0), .val (.int c1), .val (.int c2), .val (.int c3), .unset, .unset, .unset, .unset, .unset] [(.ref b20)])) t := fun t k => by
    refine XS.dup X20.here hx rfl (hb hby at_27) rfl rfl ?_
    show Steps p.tables e below (T20.setTop (mkF m 28 #[.val (.int p1), .val (.int p2), .val (.int p3), .val (.int p4), .val (.int c0), .val (.int c1), .val (.int c2), .val (.int c3), .unset, .unset, .unset, .unset, .unset] [(.ref b20), (.ref b20)])) t
    refine XS.iconst X20.here hx rfl (hb hby at_28) ?_
    exact k
  refine WP.st bk21 ?_
  clear bk21
  obtain ⟨T22, h22, k22, X22, e22, E22, A22, st22⟩ := newP X20 hx hZ (hw _ (List.mem_of_getElem? (i := 7) rfl)) e20 (g := (mkF m 29 #[.val (.int p1), .val (.int p2), .val (.int p3), .val (.int p4), .val (.int c0), .val (.int c1), .val (.int c2), .val (.int c3), .unset, .unset, .unset, .unset, .unset] [(.int (1 : Int32)), (.ref b20), (.ref b20)])) rfl (hb hby at_29) rfl (by decide) (cap := 1) (by decide) (by decide) (by decide) (by decide)
  obtain ⟨b22, g22⟩ : ∃ z, z = h20.size := ⟨_, rfl⟩
  rw [← g22] at A22 st22
  refine WP.st st22 ?_
  clear st22
  have ne_b20_b22 : b20 ≠ b22 := Nat.ne_of_lt (Nat.lt_of_lt_of_le E_b20.lt (Nat.le_of_eq g22.symm))
  have g_b22 : n0 ≤ b22 := Nat.le_trans Z0 (Nat.le_of_eq g22.symm)
  replace OLD := OLD.ext E22
  replace E_b20 := E_b20.ext E22
  replace F_b20_coder := F_b20_coder.ext E22
  replace F_b20_value := F_b20_value.ext E22
  replace Z0 := Nat.le_trans Z0 E22.1
  have V_b22 : Arv Z h22 b22 k22 .char (1 : Int32) [(.int (0 : Int32))] (.int (0 : Int32)) := (Arv.new A22 (by decide)).pad (pad_rep [] (.int (0 : Int32)) 1)
  show WP p.tables e below _ T22 (mkF m 31 #[.val (.int p1), .val (.int p2), .val (.int p3), .val (.int p4), .val (.int c0), .val (.int c1), .val (.int c2), .val (.int c3), .unset, .unset, .unset, .unset, .unset] [(.ref b22), (.ref b20), (.ref b20)])
  have bk23 : ∀ t, Steps p.tables e below (T22.setTop (mkF m 35 #[.val (.int p1), .val (.int p2), .val (.int p3), .val (.int p4), .val (.int c0), .val (.int c1), .val (.int c2), .val (.int c3), .unset, .unset, .unset, .unset, .unset] [(.int c0), (.int (0 : Int32)), (.ref b22), (.ref b22), (.ref b20), (.ref b20)])) t → Steps p.tables e below (T22.setTop (mkF m 31 #[.val (.int p1), .val (.int p2), .val (.int p3), .val (.int p4), .val (.int c0), .val (.int c1), .val (.int c2), .val (.int c3), .unset, .unset, .unset, .unset, .unset] [(.ref b22), (.ref b20), (.ref b20)])) t := fun t k => by
    refine XS.dup X22.here hx rfl (hb hby at_31) rfl rfl ?_
    show Steps p.tables e below (T22.setTop (mkF m 32 #[.val (.int p1), .val (.int p2), .val (.int p3), .val (.int p4), .val (.int c0), .val (.int c1), .val (.int c2), .val (.int c3), .unset, .unset, .unset, .unset, .unset] [(.ref b22), (.ref b22), (.ref b20), (.ref b20)])) t
    refine XS.iconst X22.here hx rfl (hb hby at_32) ?_
    show Steps p.tables e below (T22.setTop (mkF m 33 #[.val (.int p1), .val (.int p2), .val (.int p3), .val (.int p4), .val (.int c0), .val (.int c1), .val (.int c2), .val (.int c3), .unset, .unset, .unset, .unset, .unset] [(.int (0 : Int32)), (.ref b22), (.ref b22), (.ref b20), (.ref b20)])) t
    refine XS.iload X22.here hx rfl (hb hby at_33) rfl ?_
    exact k
  refine WP.st bk23 ?_
  clear bk23
  obtain ⟨cl24, Ar24, q24, S24, N24, H24, G24⟩ := V_b22
  have hin24 : ¬ ((0 : Int32) < 0 ∨ cl24.slots.size ≤ ((0 : Int32)).toNatClampNeg) := inb_of S24 ⟨by decide, by decide⟩
  obtain ⟨T25, h25, X25, e25, W25, st25⟩ := stC X22 hx hZ e22 Ar24 (j := (0 : Int32)) hin24 (g := (mkF m 35 #[.val (.int p1), .val (.int p2), .val (.int p3), .val (.int p4), .val (.int c0), .val (.int c1), .val (.int c2), .val (.int c3), .unset, .unset, .unset, .unset, .unset] [(.int c0), (.int (0 : Int32)), (.ref b22), (.ref b22), (.ref b20), (.ref b20)])) rfl rfl (hb hby at_35)
  refine WP.st st25 ?_
  clear st25
  have Vn : Arv Z h25 b22 k22 .char (1 : Int32) [(.int (nar .char c0))] (.int (0 : Int32)) := Arv.set Ar24 q24 S24 N24 H24 G24 (fits_nar_char _) W25 0 rfl (Nat.le_of_ble_eq_true rfl)
  replace OLD := OLD.wr W25 g_b22
  replace E_b20 := E_b20.wr W25
  replace F_b20_coder := F_b20_coder.other W25 (Or.inl ne_b20_b22)
  replace F_b20_value := F_b20_value.other W25 (Or.inl ne_b20_b22)
  replace Z0 := Nat.le_trans Z0 (Keep.of_wr W25).1
  replace V_b22 := Vn
  replace NF := Fr.snoc X25 NF g_b22
  clear W25 hin24 q24 S24 N24 H24 G24 Ar24
  show WP p.tables e below _ T25 (mkF m 36 #[.val (.int p1), .val (.int p2), .val (.int p3), .val (.int p4), .val (.int c0), .val (.int c1), .val (.int c2), .val (.int c3), .unset, .unset, .unset, .unset, .unset] [(.ref b22), (.ref b20), (.ref b20)])
  obtain ⟨_, _, ⟨T26, L26, k26, n26⟩, -, X26, ⟨Lc26, hQ26, l26, y26, z26⟩, st26⟩ := X25.specialBack hx (y := (⟨"java/lang/String", "<init>", "([C)V"⟩ : MethodName)) rfl hown (mvT hZ (hw _ (List.mem_of_getElem? (i := 8) rfl))) (mvT hZ (hw _ (List.mem_of_getElem? (i := 9) rfl))) (mvT hZ (hw _ (List.mem_of_getElem? (i := 10) rfl))) (by decide) (StrChars.Road.backV (W := 1) hZ (own_ws hw) (kI := 4) (hw _ (List.mem_of_getElem? (i := 5) rfl)) (cs := ([(nar .char c0)] : List Int32)) (bs := (([(nar .char c0)] : List Int32).map (fun c => c.toInt8.toInt32))) (n := 1) g_b20 Z0 E_b20 F_b20_value F_b20_coder V_b22 (O2.ext OLD.2) hz rfl rfl (by decide) (by decide) (own_hp (by intro c hc; simp only [List.mem_cons, List.not_mem_nil, or_false] at hc; subst hc; exact own_byte_nar hb0)) rfl (by decide) (by decide)) (g := (mkF m 36 #[.val (.int p1), .val (.int p2), .val (.int p3), .val (.int p4), .val (.int c0), .val (.int c1), .val (.int c2), .val (.int c3), .unset, .unset, .unset, .unset, .unset] [(.ref b22), (.ref b20), (.ref b20)])) rfl (by rw [hml]; rfl) (Steps.refl _) (a := b20) (argsL := [(.ref b22)]) (rest := [(.ref b20)]) (lenOf pd_1 rfl) rfl (by show 2 * 0 + _ ≤ _; exact Nat.le_of_eq rfl) (hb hby at_36) (fun _ _ => ⟨rfl, e25, (by decide : 2 + 1 ≤ _), (by decide : 5 + 1 ≤ _)⟩)
  dsimp only [Pt.U, Pt.locs, Pt.cells, Pt.slots] at X26 l26 y26 z26 st26 hQ26
  subst l26 y26 z26
  obtain ⟨rfl, Nq26, Kq26, nE26, nC26, tb26, kb26, g_tb26, szq_tb26, nx26, nV26, nA26⟩ := hQ26
  refine WP.tr st26 ?_
  clear st26
  replace NF := Fr.app NF Nq26
  obtain ⟨h26, e26⟩ : ∃ h, T26.heap = h := ⟨_, rfl⟩
  rw [e26] at Kq26 nE26 nC26 nV26 nA26
  have ne_b20_tb26 : b20 ≠ tb26 := Nat.ne_of_lt (Nat.lt_of_lt_of_le E_b20.lt szq_tb26)
  have ne_b22_tb26 : b22 ≠ tb26 := Nat.ne_of_lt (Nat.lt_of_lt_of_le V_b22.lt szq_tb26)
  replace OLD := OLD.keep Kq26 (allS g_b20 all0)
  replace E_b20 := E_b20.keep Kq26
  clear F_b20_coder
  clear F_b20_value
  replace V_b22 := V_b22.keep Kq26 (by exact ninS (Ne.symm ne_b20_b22) (nin0))
  replace Z0 := Nat.le_trans Z0 Kq26.1
  clear E_b20
  have E_b20 := nE26
  clear nE26
  have F_b20_coder := nC26
  clear nC26
  have F_b20_value := nV26
  clear nV26
  have V_tb26 := nA26
  clear nA26 Kq26
  show WP p.tables e below _ T26 (mkF m 39 #[.val (.int p1), .val (.int p2), .val (.int p3), .val (.int p4), .val (.int c0), .val (.int c1), .val (.int c2), .val (.int c3), .unset, .unset, .unset, .unset, .unset] [(.ref b20)])
  have bk27 : ∀ t, Steps p.tables e below (T26.setTop (mkF m 41 #[.val (.int p1), .val (.int p2), .val (.int p3), .val (.int p4), .val (.int c0), .val (.int c1), .val (.int c2), .val (.int c3), .val (.ref b20), .unset, .unset, .unset, .unset] [])) t → Steps p.tables e below (T26.setTop (mkF m 39 #[.val (.int p1), .val (.int p2), .val (.int p3), .val (.int p4), .val (.int c0), .val (.int c1), .val (.int c2), .val (.int c3), .unset, .unset, .unset, .unset, .unset] [(.ref b20)])) t := fun t k => by
    refine XS.astore X26.here hx rfl (hb hby at_39) rfl rfl (l' := #[.val (.int p1), .val (.int p2), .val (.int p3), .val (.int p4), .val (.int c0), .val (.int c1), .val (.int c2), .val (.int c3), .val (.ref b20), .unset, .unset, .unset, .unset]) rfl ?_
    exact k
  refine WP.st bk27 ?_
  clear bk27
  obtain ⟨T28, h28, X28, e28, E28, A28, D28, -, st28⟩ := newO X26 hx hZ hown (hw _ (List.mem_of_getElem? (i := 4) rfl)) (hw _ (List.mem_of_getElem? (i := 5) rfl)) (hw _ (List.mem_of_getElem? (i := 6) rfl)) e26 (g := (mkF m 41 #[.val (.int p1), .val (.int p2), .val (.int p3), .val (.int p4), .val (.int c0), .val (.int c1), .val (.int c2), .val (.int c3), .val (.ref b20), .unset, .unset, .unset, .unset] [])) rfl (hb hby at_41) (by decide) (by decide)
  obtain ⟨b28, g28⟩ : ∃ z, z = h26.size := ⟨_, rfl⟩
  rw [← g28] at A28 D28 st28
  refine WP.st st28 ?_
  clear st28
  have ne_b20_b28 : b20 ≠ b28 := Nat.ne_of_lt (Nat.lt_of_lt_of_le E_b20.lt (Nat.le_of_eq g28.symm))
  have ne_b22_b28 : b22 ≠ b28 := Nat.ne_of_lt (Nat.lt_of_lt_of_le V_b22.lt (Nat.le_of_eq g28.symm))
  have ne_tb26_b28 : tb26 ≠ b28 := Nat.ne_of_lt (Nat.lt_of_lt_of_le V_tb26.lt (Nat.le_of_eq g28.symm))
  have g_b28 : n0 ≤ b28 := Nat.le_trans Z0 (Nat.le_of_eq g28.symm)
  replace OLD := OLD.ext E28
  replace E_b20 := E_b20.ext E28
  replace V_b22 := V_b22.ext E28
  replace F_b20_coder := F_b20_coder.ext E28
  replace F_b20_value := F_b20_value.ext E28
  replace V_tb26 := V_tb26.ext E28
  replace Z0 := Nat.le_trans Z0 E28.1
  have E_b28 := A28
  have F_b28_coder : Fld Z h28 b28 "java/lang/String" "coder" "B" (.int (0 : Int32)) := D28 (Or.inr (hw _ (List.mem_of_getElem? (i := 31) rfl))) (ty := .byte) (by decide)
  have F_b28_value : Fld Z h28 b28 "java/lang/String" "value" "[B" .null := D28 (Or.inr (hw _ (List.mem_of_getElem? (i := 33) rfl))) (ty := (.array .byte)) (by decide)
  clear D28 A28
  show WP p.tables e below _ T28 (mkF m 44 #[.val (.int p1), .val (.int p2), .val (.int p3), .val (.int p4), .val (.int c0), .val (.int c1), .val (.int c2), .val (.int c3), .val (.ref b20), .unset, .unset, .unset, .unset] [(.ref b28)])
  have bk29 : ∀ t, Steps p.tables e below (T28.setTop (mkF m 46 #[.val (.int p1), .val (.int p2), .val (.int p3), .val (.int p4), .val (.int c0), .val (.int c1), .val (.int c2), .val (.int c3), .val (.ref b20), .unset, .unset, .unset, .unset] [(.int (2 : Int32)), (.ref b28), (.ref b28)])) t → Steps p.tables e below (T28.setTop (mkF m 44 #[.val (.int p1), .val (.int p2), .val (.int p3), .val (.int p4), .val (.int c0), .val (.int c1), .val (.int c2), .val (.int c3), .val (.ref b20), .unset, .unset, .unset, .unset] [(.ref b28)])) t := fun t k => by
    refine XS.dup X28.here hx rfl (hb hby at_44) rfl rfl ?_
    show Steps p.tables e below (T28.setTop (mkF m 45 #[.val (.int p1), .val (.int p2), .val (.int p3), .val (.int p4), .val (.int c0), .val (.int c1), .val (.int c2), .val (.int c3), .val (.ref b20), .unset, .unset, .unset, .unset] [(.ref b28), (.ref b28)])) t
    refine XS.iconst X28.here hx rfl (hb hby at_45) ?_
    exact k
  refine WP.st bk29 ?_
  clear bk29
  obtain ⟨T30, h30, k30, X30, e30, E30, A30, st30⟩ := newP X28 hx hZ (hw _ (List.mem_of_getElem? (i := 7) rfl)) e28 (g := (mkF m 46 #[.val (.int p1), .val (.int p2), .val (.int p3), .val (.int p4), .val (.int c0), .val (.int c1), .val (.int c2), .val (.int c3), .val (.ref b20), .unset, .unset, .unset, .unset] [(.int (2 : Int32)), (.ref b28), (.ref b28)])) rfl (hb hby at_46) rfl (by decide) (cap := 2) (by decide) (by decide) (by decide) (by decide)
  obtain ⟨b30, g30⟩ : ∃ z, z = h28.size := ⟨_, rfl⟩
  rw [← g30] at A30 st30
  refine WP.st st30 ?_
  clear st30
  have ne_b20_b30 : b20 ≠ b30 := Nat.ne_of_lt (Nat.lt_of_lt_of_le E_b20.lt (Nat.le_of_eq g30.symm))
  have ne_b22_b30 : b22 ≠ b30 := Nat.ne_of_lt (Nat.lt_of_lt_of_le V_b22.lt (Nat.le_of_eq g30.symm))
  have ne_tb26_b30 : tb26 ≠ b30 := Nat.ne_of_lt (Nat.lt_of_lt_of_le V_tb26.lt (Nat.le_of_eq g30.symm))
  have ne_b28_b30 : b28 ≠ b30 := Nat.ne_of_lt (Nat.lt_of_lt_of_le E_b28.lt (Nat.le_of_eq g30.symm))
  have g_b30 : n0 ≤ b30 := Nat.le_trans Z0 (Nat.le_of_eq g30.symm)
  replace OLD := OLD.ext E30
  replace E_b20 := E_b20.ext E30
  replace V_b22 := V_b22.ext E30
  replace F_b20_coder := F_b20_coder.ext E30
  replace F_b20_value := F_b20_value.ext E30
  replace V_tb26 := V_tb26.ext E30
  replace E_b28 := E_b28.ext E30
  replace F_b28_coder := F_b28_coder.ext E30
  replace F_b28_value := F_b28_value.ext E30
  replace Z0 := Nat.le_trans Z0 E30.1
  have V_b30 : Arv Z h30 b30 k30 .char (2 : Int32) [(.int (0 : Int32)), (.int (0 : Int32))] (.int (0 : Int32)) := (Arv.new A30 (by decide)).pad (pad_rep [] (.int (0 : Int32)) 2)
  show WP p.tables e below _ T30 (mkF m 48 #[.val (.int p1), .val (.int p2), .val (.int p3), .val (.int p4), .val (.int c0), .val (.int c1), .val (.int c2), .val (.int c3), .val (.ref b20), .unset, .unset, .unset, .unset] [(.ref b30), (.ref b28), (.ref b28)])
  have bk31 : ∀ t, Steps p.tables e below (T30.setTop (mkF m 52 #[.val (.int p1), .val (.int p2), .val (.int p3), .val (.int p4), .val (.int c0), .val (.int c1), .val (.int c2), .val (.int c3), .val (.ref b20), .unset, .unset, .unset, .unset] [(.int c0), (.int (0 : Int32)), (.ref b30), (.ref b30), (.ref b28), (.ref b28)])) t → Steps p.tables e below (T30.setTop (mkF m 48 #[.val (.int p1), .val (.int p2), .val (.int p3), .val (.int p4), .val (.int c0), .val (.int c1), .val (.int c2), .val (.int c3), .val (.ref b20), .unset, .unset, .unset, .unset] [(.ref b30), (.ref b28), (.ref b28)])) t := fun t k => by
    refine XS.dup X30.here hx rfl (hb hby at_48) rfl rfl ?_
    show Steps p.tables e below (T30.setTop (mkF m 49 #[.val (.int p1), .val (.int p2), .val (.int p3), .val (.int p4), .val (.int c0), .val (.int c1), .val (.int c2), .val (.int c3), .val (.ref b20), .unset, .unset, .unset, .unset] [(.ref b30), (.ref b30), (.ref b28), (.ref b28)])) t
    refine XS.iconst X30.here hx rfl (hb hby at_49) ?_
    show Steps p.tables e below (T30.setTop (mkF m 50 #[.val (.int p1), .val (.int p2), .val (.int p3), .val (.int p4), .val (.int c0), .val (.int c1), .val (.int c2), .val (.int c3), .val (.ref b20), .unset, .unset, .unset, .unset] [(.int (0 : Int32)), (.ref b30), (.ref b30), (.ref b28), (.ref b28)])) t
    refine XS.iload X30.here hx rfl (hb hby at_50) rfl ?_
    exact k
  refine WP.st bk31 ?_
  clear bk31
  obtain ⟨cl32, Ar32, q32, S32, N32, H32, G32⟩ := V_b30
  have hin32 : ¬ ((0 : Int32) < 0 ∨ cl32.slots.size ≤ ((0 : Int32)).toNatClampNeg) := inb_of S32 ⟨by decide, by decide⟩
  obtain ⟨T33, h33, X33, e33, W33, st33⟩ := stC X30 hx hZ e30 Ar32 (j := (0 : Int32)) hin32 (g := (mkF m 52 #[.val (.int p1), .val (.int p2), .val (.int p3), .val (.int p4), .val (.int c0), .val (.int c1), .val (.int c2), .val (.int c3), .val (.ref b20), .unset, .unset, .unset, .unset] [(.int c0), (.int (0 : Int32)), (.ref b30), (.ref b30), (.ref b28), (.ref b28)])) rfl rfl (hb hby at_52)
  refine WP.st st33 ?_
  clear st33
  have Vn : Arv Z h33 b30 k30 .char (2 : Int32) [(.int (nar .char c0)), (.int (0 : Int32))] (.int (0 : Int32)) := Arv.set Ar32 q32 S32 N32 H32 G32 (fits_nar_char _) W33 0 rfl (Nat.le_of_ble_eq_true rfl)
  replace OLD := OLD.wr W33 g_b30
  replace E_b20 := E_b20.wr W33
  replace V_b22 := V_b22.other W33 ne_b22_b30
  replace F_b20_coder := F_b20_coder.other W33 (Or.inl ne_b20_b30)
  replace F_b20_value := F_b20_value.other W33 (Or.inl ne_b20_b30)
  replace V_tb26 := V_tb26.other W33 ne_tb26_b30
  replace E_b28 := E_b28.wr W33
  replace F_b28_coder := F_b28_coder.other W33 (Or.inl ne_b28_b30)
  replace F_b28_value := F_b28_value.other W33 (Or.inl ne_b28_b30)
  replace Z0 := Nat.le_trans Z0 (Keep.of_wr W33).1
  replace V_b30 := Vn
  replace NF := Fr.snoc X33 NF g_b30
  clear W33 hin32 q32 S32 N32 H32 G32 Ar32
  show WP p.tables e below _ T33 (mkF m 53 #[.val (.int p1), .val (.int p2), .val (.int p3), .val (.int p4), .val (.int c0), .val (.int c1), .val (.int c2), .val (.int c3), .val (.ref b20), .unset, .unset, .unset, .unset] [(.ref b30), (.ref b28), (.ref b28)])
  have bk34 : ∀ t, Steps p.tables e below (T33.setTop (mkF m 57 #[.val (.int p1), .val (.int p2), .val (.int p3), .val (.int p4), .val (.int c0), .val (.int c1), .val (.int c2), .val (.int c3), .val (.ref b20), .unset, .unset, .unset, .unset] [(.int c1), (.int (1 : Int32)), (.ref b30), (.ref b30), (.ref b28), (.ref b28)])) t → Steps p.tables e below (T33.setTop (mkF m 53 #[.val (.int p1), .val (.int p2), .val (.int p3), .val (.int p4), .val (.int c0), .val (.int c1), .val (.int c2), .val (.int c3), .val (.ref b20), .unset, .unset, .unset, .unset] [(.ref b30), (.ref b28), (.ref b28)])) t := fun t k => by
    refine XS.dup X33.here hx rfl (hb hby at_53) rfl rfl ?_
    show Steps p.tables e below (T33.setTop (mkF m 54 #[.val (.int p1), .val (.int p2), .val (.int p3), .val (.int p4), .val (.int c0), .val (.int c1), .val (.int c2), .val (.int c3), .val (.ref b20), .unset, .unset, .unset, .unset] [(.ref b30), (.ref b30), (.ref b28), (.ref b28)])) t
    refine XS.iconst X33.here hx rfl (hb hby at_54) ?_
    show Steps p.tables e below (T33.setTop (mkF m 55 #[.val (.int p1), .val (.int p2), .val (.int p3), .val (.int p4), .val (.int c0), .val (.int c1), .val (.int c2), .val (.int c3), .val (.ref b20), .unset, .unset, .unset, .unset] [(.int (1 : Int32)), (.ref b30), (.ref b30), (.ref b28), (.ref b28)])) t
    refine XS.iload X33.here hx rfl (hb hby at_55) rfl ?_
    exact k
  refine WP.st bk34 ?_
  clear bk34
  obtain ⟨cl35, Ar35, q35, S35, N35, H35, G35⟩ := V_b30
  have hin35 : ¬ ((1 : Int32) < 0 ∨ cl35.slots.size ≤ ((1 : Int32)).toNatClampNeg) := inb_of S35 ⟨by decide, by decide⟩
  obtain ⟨T36, h36, X36, e36, W36, st36⟩ := stC X33 hx hZ e33 Ar35 (j := (1 : Int32)) hin35 (g := (mkF m 57 #[.val (.int p1), .val (.int p2), .val (.int p3), .val (.int p4), .val (.int c0), .val (.int c1), .val (.int c2), .val (.int c3), .val (.ref b20), .unset, .unset, .unset, .unset] [(.int c1), (.int (1 : Int32)), (.ref b30), (.ref b30), (.ref b28), (.ref b28)])) rfl rfl (hb hby at_57)
  refine WP.st st36 ?_
  clear st36
  have Vn : Arv Z h36 b30 k30 .char (2 : Int32) [(.int (nar .char c0)), (.int (nar .char c1))] (.int (0 : Int32)) := Arv.set Ar35 q35 S35 N35 H35 G35 (fits_nar_char _) W36 1 rfl (Nat.le_of_ble_eq_true rfl)
  replace OLD := OLD.wr W36 g_b30
  replace E_b20 := E_b20.wr W36
  replace V_b22 := V_b22.other W36 ne_b22_b30
  replace F_b20_coder := F_b20_coder.other W36 (Or.inl ne_b20_b30)
  replace F_b20_value := F_b20_value.other W36 (Or.inl ne_b20_b30)
  replace V_tb26 := V_tb26.other W36 ne_tb26_b30
  replace E_b28 := E_b28.wr W36
  replace F_b28_coder := F_b28_coder.other W36 (Or.inl ne_b28_b30)
  replace F_b28_value := F_b28_value.other W36 (Or.inl ne_b28_b30)
  replace Z0 := Nat.le_trans Z0 (Keep.of_wr W36).1
  replace V_b30 := Vn
  replace NF := Fr.snoc X36 NF g_b30
  clear W36 hin35 q35 S35 N35 H35 G35 Ar35
  show WP p.tables e below _ T36 (mkF m 58 #[.val (.int p1), .val (.int p2), .val (.int p3), .val (.int p4), .val (.int c0), .val (.int c1), .val (.int c2), .val (.int c3), .val (.ref b20), .unset, .unset, .unset, .unset] [(.ref b30), (.ref b28), (.ref b28)])
  obtain ⟨_, _, ⟨T37, L37, k37, n37⟩, -, X37, ⟨Lc37, hQ37, l37, y37, z37⟩, st37⟩ := X36.specialBack hx (y := (⟨"java/lang/String", "<init>", "([C)V"⟩ : MethodName)) rfl hown (mvT hZ (hw _ (List.mem_of_getElem? (i := 8) rfl))) (mvT hZ (hw _ (List.mem_of_getElem? (i := 9) rfl))) (mvT hZ (hw _ (List.mem_of_getElem? (i := 10) rfl))) (by decide) (StrChars.Road.backV (W := 1) hZ (own_ws hw) (kI := 4) (hw _ (List.mem_of_getElem? (i := 5) rfl)) (cs := ([(nar .char c0), (nar .char c1)] : List Int32)) (bs := (([(nar .char c0), (nar .char c1)] : List Int32).map (fun c => c.toInt8.toInt32))) (n := 2) g_b28 Z0 E_b28 F_b28_value F_b28_coder V_b30 (O2.ext OLD.2) hz rfl rfl (by decide) (by decide) (own_hp (by intro c hc; simp only [List.mem_cons, List.not_mem_nil, or_false] at hc; rcases hc with rfl | rfl <;> first | exact own_byte_nar hb0 | exact own_byte_nar hb1)) rfl (by decide) (by decide)) (g := (mkF m 58 #[.val (.int p1), .val (.int p2), .val (.int p3), .val (.int p4), .val (.int c0), .val (.int c1), .val (.int c2), .val (.int c3), .val (.ref b20), .unset, .unset, .unset, .unset] [(.ref b30), (.ref b28), (.ref b28)])) rfl (by rw [hml]; rfl) (Steps.refl _) (a := b28) (argsL := [(.ref b30)]) (rest := [(.ref b28)]) (lenOf pd_1 rfl) rfl (by show 2 * 0 + _ ≤ _; exact Nat.le_of_eq rfl) (hb hby at_58) (fun _ _ => ⟨rfl, e36, (by decide : 5 + 1 ≤ _), (by decide : 12 + 2 ≤ _)⟩)
  dsimp only [Pt.U, Pt.locs, Pt.cells, Pt.slots] at X37 l37 y37 z37 st37 hQ37
  subst l37 y37 z37
  obtain ⟨rfl, Nq37, Kq37, nE37, nC37, tb37, kb37, g_tb37, szq_tb37, nx37, nV37, nA37⟩ := hQ37
  refine WP.tr st37 ?_
  clear st37
  replace NF := Fr.app NF Nq37
  obtain ⟨h37, e37⟩ : ∃ h, T37.heap = h := ⟨_, rfl⟩
  rw [e37] at Kq37 nE37 nC37 nV37 nA37
  have ne_b20_tb37 : b20 ≠ tb37 := Nat.ne_of_lt (Nat.lt_of_lt_of_le E_b20.lt szq_tb37)
  have ne_b22_tb37 : b22 ≠ tb37 := Nat.ne_of_lt (Nat.lt_of_lt_of_le V_b22.lt szq_tb37)
  have ne_tb26_tb37 : tb26 ≠ tb37 := Nat.ne_of_lt (Nat.lt_of_lt_of_le V_tb26.lt szq_tb37)
  have ne_b28_tb37 : b28 ≠ tb37 := Nat.ne_of_lt (Nat.lt_of_lt_of_le E_b28.lt szq_tb37)
  have ne_b30_tb37 : b30 ≠ tb37 := Nat.ne_of_lt (Nat.lt_of_lt_of_le V_b30.lt szq_tb37)
  replace OLD := OLD.keep Kq37 (allS g_b28 all0)
  replace E_b20 := E_b20.keep Kq37
  replace V_b22 := V_b22.keep Kq37 (by exact ninS ne_b22_b28 (nin0))
  replace F_b20_coder := F_b20_coder.keep Kq37 (by exact ninS ne_b20_b28 (nin0))
  replace F_b20_value := F_b20_value.keep Kq37 (by exact ninS ne_b20_b28 (nin0))
  replace V_tb26 := V_tb26.keep Kq37 (by exact ninS ne_tb26_b28 (nin0))
  replace E_b28 := E_b28.keep Kq37
  clear F_b28_coder
  clear F_b28_value
  replace V_b30 := V_b30.keep Kq37 (by exact ninS (Ne.symm ne_b28_b30) (nin0))
  replace Z0 := Nat.le_trans Z0 Kq37.1
  clear E_b28
  have E_b28 := nE37
  clear nE37
  have F_b28_coder := nC37
  clear nC37
  have F_b28_value := nV37
  clear nV37
  have V_tb37 := nA37
  clear nA37 Kq37
  show WP p.tables e below _ T37 (mkF m 61 #[.val (.int p1), .val (.int p2), .val (.int p3), .val (.int p4), .val (.int c0), .val (.int c1), .val (.int c2), .val (.int c3), .val (.ref b20), .unset, .unset, .unset, .unset] [(.ref b28)])
  have bk38 : ∀ t, Steps p.tables e below (T37.setTop (mkF m 63 #[.val (.int p1), .val (.int p2), .val (.int p3), .val (.int p4), .val (.int c0), .val (.int c1), .val (.int c2), .val (.int c3), .val (.ref b20), .val (.ref b28), .unset, .unset, .unset] [])) t → Steps p.tables e below (T37.setTop (mkF m 61 #[.val (.int p1), .val (.int p2), .val (.int p3), .val (.int p4), .val (.int c0), .val (.int c1), .val (.int c2), .val (.int c3), .val (.ref b20), .unset, .unset, .unset, .unset] [(.ref b28)])) t := fun t k => by
    refine XS.astore X37.here hx rfl (hb hby at_61) rfl rfl (l' := #[.val (.int p1), .val (.int p2), .val (.int p3), .val (.int p4), .val (.int c0), .val (.int c1), .val (.int c2), .val (.int c3), .val (.ref b20), .val (.ref b28), .unset, .unset, .unset]) rfl ?_
    exact k
  refine WP.st bk38 ?_
  clear bk38
  obtain ⟨T39, h39, X39, e39, E39, A39, D39, -, st39⟩ := newO X37 hx hZ hown (hw _ (List.mem_of_getElem? (i := 4) rfl)) (hw _ (List.mem_of_getElem? (i := 5) rfl)) (hw _ (List.mem_of_getElem? (i := 6) rfl)) e37 (g := (mkF m 63 #[.val (.int p1), .val (.int p2), .val (.int p3), .val (.int p4), .val (.int c0), .val (.int c1), .val (.int c2), .val (.int c3), .val (.ref b20), .val (.ref b28), .unset, .unset, .unset] [])) rfl (hb hby at_63) (by decide) (by decide)
  obtain ⟨b39, g39⟩ : ∃ z, z = h37.size := ⟨_, rfl⟩
  rw [← g39] at A39 D39 st39
  refine WP.st st39 ?_
  clear st39
  have ne_b20_b39 : b20 ≠ b39 := Nat.ne_of_lt (Nat.lt_of_lt_of_le E_b20.lt (Nat.le_of_eq g39.symm))
  have ne_b22_b39 : b22 ≠ b39 := Nat.ne_of_lt (Nat.lt_of_lt_of_le V_b22.lt (Nat.le_of_eq g39.symm))
  have ne_tb26_b39 : tb26 ≠ b39 := Nat.ne_of_lt (Nat.lt_of_lt_of_le V_tb26.lt (Nat.le_of_eq g39.symm))
  have ne_b28_b39 : b28 ≠ b39 := Nat.ne_of_lt (Nat.lt_of_lt_of_le E_b28.lt (Nat.le_of_eq g39.symm))
  have ne_b30_b39 : b30 ≠ b39 := Nat.ne_of_lt (Nat.lt_of_lt_of_le V_b30.lt (Nat.le_of_eq g39.symm))
  have ne_tb37_b39 : tb37 ≠ b39 := Nat.ne_of_lt (Nat.lt_of_lt_of_le V_tb37.lt (Nat.le_of_eq g39.symm))
  have g_b39 : n0 ≤ b39 := Nat.le_trans Z0 (Nat.le_of_eq g39.symm)
  replace OLD := OLD.ext E39
  replace E_b20 := E_b20.ext E39
  replace V_b22 := V_b22.ext E39
  replace F_b20_coder := F_b20_coder.ext E39
  replace F_b20_value := F_b20_value.ext E39
  replace V_tb26 := V_tb26.ext E39
  replace E_b28 := E_b28.ext E39
  replace V_b30 := V_b30.ext E39
  replace F_b28_coder := F_b28_coder.ext E39
  replace F_b28_value := F_b28_value.ext E39
  replace V_tb37 := V_tb37.ext E39
  replace Z0 := Nat.le_trans Z0 E39.1
  have E_b39 := A39
  have F_b39_coder : Fld Z h39 b39 "java/lang/String" "coder" "B" (.int (0 : Int32)) := D39 (Or.inr (hw _ (List.mem_of_getElem? (i := 31) rfl))) (ty := .byte) (by decide)
  have F_b39_value : Fld Z h39 b39 "java/lang/String" "value" "[B" .null := D39 (Or.inr (hw _ (List.mem_of_getElem? (i := 33) rfl))) (ty := (.array .byte)) (by decide)
  clear D39 A39
  show WP p.tables e below _ T39 (mkF m 66 #[.val (.int p1), .val (.int p2), .val (.int p3), .val (.int p4), .val (.int c0), .val (.int c1), .val (.int c2), .val (.int c3), .val (.ref b20), .val (.ref b28), .unset, .unset, .unset] [(.ref b39)])
  have bk40 : ∀ t, Steps p.tables e below (T39.setTop (mkF m 68 #[.val (.int p1), .val (.int p2), .val (.int p3), .val (.int p4), .val (.int c0), .val (.int c1), .val (.int c2), .val (.int c3), .val (.ref b20), .val (.ref b28), .unset, .unset, .unset] [(.int (3 : Int32)), (.ref b39), (.ref b39)])) t → Steps p.tables e below (T39.setTop (mkF m 66 #[.val (.int p1), .val (.int p2), .val (.int p3), .val (.int p4), .val (.int c0), .val (.int c1), .val (.int c2), .val (.int c3), .val (.ref b20), .val (.ref b28), .unset, .unset, .unset] [(.ref b39)])) t := fun t k => by
    refine XS.dup X39.here hx rfl (hb hby at_66) rfl rfl ?_
    show Steps p.tables e below (T39.setTop (mkF m 67 #[.val (.int p1), .val (.int p2), .val (.int p3), .val (.int p4), .val (.int c0), .val (.int c1), .val (.int c2), .val (.int c3), .val (.ref b20), .val (.ref b28), .unset, .unset, .unset] [(.ref b39), (.ref b39)])) t
    refine XS.iconst X39.here hx rfl (hb hby at_67) ?_
    exact k
  refine WP.st bk40 ?_
  clear bk40
  obtain ⟨T41, h41, k41, X41, e41, E41, A41, st41⟩ := newP X39 hx hZ (hw _ (List.mem_of_getElem? (i := 7) rfl)) e39 (g := (mkF m 68 #[.val (.int p1), .val (.int p2), .val (.int p3), .val (.int p4), .val (.int c0), .val (.int c1), .val (.int c2), .val (.int c3), .val (.ref b20), .val (.ref b28), .unset, .unset, .unset] [(.int (3 : Int32)), (.ref b39), (.ref b39)])) rfl (hb hby at_68) rfl (by decide) (cap := 3) (by decide) (by decide) (by decide) (by decide)
  obtain ⟨b41, g41⟩ : ∃ z, z = h39.size := ⟨_, rfl⟩
  rw [← g41] at A41 st41
  refine WP.st st41 ?_
  clear st41
  have ne_b20_b41 : b20 ≠ b41 := Nat.ne_of_lt (Nat.lt_of_lt_of_le E_b20.lt (Nat.le_of_eq g41.symm))
  have ne_b22_b41 : b22 ≠ b41 := Nat.ne_of_lt (Nat.lt_of_lt_of_le V_b22.lt (Nat.le_of_eq g41.symm))
  have ne_tb26_b41 : tb26 ≠ b41 := Nat.ne_of_lt (Nat.lt_of_lt_of_le V_tb26.lt (Nat.le_of_eq g41.symm))
  have ne_b28_b41 : b28 ≠ b41 := Nat.ne_of_lt (Nat.lt_of_lt_of_le E_b28.lt (Nat.le_of_eq g41.symm))
  have ne_b30_b41 : b30 ≠ b41 := Nat.ne_of_lt (Nat.lt_of_lt_of_le V_b30.lt (Nat.le_of_eq g41.symm))
  have ne_tb37_b41 : tb37 ≠ b41 := Nat.ne_of_lt (Nat.lt_of_lt_of_le V_tb37.lt (Nat.le_of_eq g41.symm))
  have ne_b39_b41 : b39 ≠ b41 := Nat.ne_of_lt (Nat.lt_of_lt_of_le E_b39.lt (Nat.le_of_eq g41.symm))
  have g_b41 : n0 ≤ b41 := Nat.le_trans Z0 (Nat.le_of_eq g41.symm)
  replace OLD := OLD.ext E41
  replace E_b20 := E_b20.ext E41
  replace V_b22 := V_b22.ext E41
  replace F_b20_coder := F_b20_coder.ext E41
  replace F_b20_value := F_b20_value.ext E41
  replace V_tb26 := V_tb26.ext E41
  replace E_b28 := E_b28.ext E41
  replace V_b30 := V_b30.ext E41
  replace F_b28_coder := F_b28_coder.ext E41
  replace F_b28_value := F_b28_value.ext E41
  replace V_tb37 := V_tb37.ext E41
  replace E_b39 := E_b39.ext E41
  replace F_b39_coder := F_b39_coder.ext E41
  replace F_b39_value := F_b39_value.ext E41
  replace Z0 := Nat.le_trans Z0 E41.1
  have V_b41 : Arv Z h41 b41 k41 .char (3 : Int32) [(.int (0 : Int32)), (.int (0 : Int32)), (.int (0 : Int32))] (.int (0 : Int32)) := (Arv.new A41 (by decide)).pad (pad_rep [] (.int (0 : Int32)) 3)
  show WP p.tables e below _ T41 (mkF m 70 #[.val (.int p1), .val (.int p2), .val (.int p3), .val (.int p4), .val (.int c0), .val (.int c1), .val (.int c2), .val (.int c3), .val (.ref b20), .val (.ref b28), .unset, .unset, .unset] [(.ref b41), (.ref b39), (.ref b39)])
  have bk42 : ∀ t, Steps p.tables e below (T41.setTop (mkF m 74 #[.val (.int p1), .val (.int p2), .val (.int p3), .val (.int p4), .val (.int c0), .val (.int c1), .val (.int c2), .val (.int c3), .val (.ref b20), .val (.ref b28), .unset, .unset, .unset] [(.int c0), (.int (0 : Int32)), (.ref b41), (.ref b41), (.ref b39), (.ref b39)])) t → Steps p.tables e below (T41.setTop (mkF m 70 #[.val (.int p1), .val (.int p2), .val (.int p3), .val (.int p4), .val (.int c0), .val (.int c1), .val (.int c2), .val (.int c3), .val (.ref b20), .val (.ref b28), .unset, .unset, .unset] [(.ref b41), (.ref b39), (.ref b39)])) t := fun t k => by
    refine XS.dup X41.here hx rfl (hb hby at_70) rfl rfl ?_
    show Steps p.tables e below (T41.setTop (mkF m 71 #[.val (.int p1), .val (.int p2), .val (.int p3), .val (.int p4), .val (.int c0), .val (.int c1), .val (.int c2), .val (.int c3), .val (.ref b20), .val (.ref b28), .unset, .unset, .unset] [(.ref b41), (.ref b41), (.ref b39), (.ref b39)])) t
    refine XS.iconst X41.here hx rfl (hb hby at_71) ?_
    show Steps p.tables e below (T41.setTop (mkF m 72 #[.val (.int p1), .val (.int p2), .val (.int p3), .val (.int p4), .val (.int c0), .val (.int c1), .val (.int c2), .val (.int c3), .val (.ref b20), .val (.ref b28), .unset, .unset, .unset] [(.int (0 : Int32)), (.ref b41), (.ref b41), (.ref b39), (.ref b39)])) t
    refine XS.iload X41.here hx rfl (hb hby at_72) rfl ?_
    exact k
  refine WP.st bk42 ?_
  clear bk42
  obtain ⟨cl43, Ar43, q43, S43, N43, H43, G43⟩ := V_b41
  have hin43 : ¬ ((0 : Int32) < 0 ∨ cl43.slots.size ≤ ((0 : Int32)).toNatClampNeg) := inb_of S43 ⟨by decide, by decide⟩
  obtain ⟨T44, h44, X44, e44, W44, st44⟩ := stC X41 hx hZ e41 Ar43 (j := (0 : Int32)) hin43 (g := (mkF m 74 #[.val (.int p1), .val (.int p2), .val (.int p3), .val (.int p4), .val (.int c0), .val (.int c1), .val (.int c2), .val (.int c3), .val (.ref b20), .val (.ref b28), .unset, .unset, .unset] [(.int c0), (.int (0 : Int32)), (.ref b41), (.ref b41), (.ref b39), (.ref b39)])) rfl rfl (hb hby at_74)
  refine WP.st st44 ?_
  clear st44
  have Vn : Arv Z h44 b41 k41 .char (3 : Int32) [(.int (nar .char c0)), (.int (0 : Int32)), (.int (0 : Int32))] (.int (0 : Int32)) := Arv.set Ar43 q43 S43 N43 H43 G43 (fits_nar_char _) W44 0 rfl (Nat.le_of_ble_eq_true rfl)
  replace OLD := OLD.wr W44 g_b41
  replace E_b20 := E_b20.wr W44
  replace V_b22 := V_b22.other W44 ne_b22_b41
  replace F_b20_coder := F_b20_coder.other W44 (Or.inl ne_b20_b41)
  replace F_b20_value := F_b20_value.other W44 (Or.inl ne_b20_b41)
  replace V_tb26 := V_tb26.other W44 ne_tb26_b41
  replace E_b28 := E_b28.wr W44
  replace V_b30 := V_b30.other W44 ne_b30_b41
  replace F_b28_coder := F_b28_coder.other W44 (Or.inl ne_b28_b41)
  replace F_b28_value := F_b28_value.other W44 (Or.inl ne_b28_b41)
  replace V_tb37 := V_tb37.other W44 ne_tb37_b41
  replace E_b39 := E_b39.wr W44
  replace F_b39_coder := F_b39_coder.other W44 (Or.inl ne_b39_b41)
  replace F_b39_value := F_b39_value.other W44 (Or.inl ne_b39_b41)
  replace Z0 := Nat.le_trans Z0 (Keep.of_wr W44).1
  replace V_b41 := Vn
  replace NF := Fr.snoc X44 NF g_b41
  clear W44 hin43 q43 S43 N43 H43 G43 Ar43
  show WP p.tables e below _ T44 (mkF m 75 #[.val (.int p1), .val (.int p2), .val (.int p3), .val (.int p4), .val (.int c0), .val (.int c1), .val (.int c2), .val (.int c3), .val (.ref b20), .val (.ref b28), .unset, .unset, .unset] [(.ref b41), (.ref b39), (.ref b39)])
  have bk45 : ∀ t, Steps p.tables e below (T44.setTop (mkF m 79 #[.val (.int p1), .val (.int p2), .val (.int p3), .val (.int p4), .val (.int c0), .val (.int c1), .val (.int c2), .val (.int c3), .val (.ref b20), .val (.ref b28), .unset, .unset, .unset] [(.int c1), (.int (1 : Int32)), (.ref b41), (.ref b41), (.ref b39), (.ref b39)])) t → Steps p.tables e below (T44.setTop (mkF m 75 #[.val (.int p1), .val (.int p2), .val (.int p3), .val (.int p4), .val (.int c0), .val (.int c1), .val (.int c2), .val (.int c3), .val (.ref b20), .val (.ref b28), .unset, .unset, .unset] [(.ref b41), (.ref b39), (.ref b39)])) t := fun t k => by
    refine XS.dup X44.here hx rfl (hb hby at_75) rfl rfl ?_
    show Steps p.tables e below (T44.setTop (mkF m 76 #[.val (.int p1), .val (.int p2), .val (.int p3), .val (.int p4), .val (.int c0), .val (.int c1), .val (.int c2), .val (.int c3), .val (.ref b20), .val (.ref b28), .unset, .unset, .unset] [(.ref b41), (.ref b41), (.ref b39), (.ref b39)])) t
    refine XS.iconst X44.here hx rfl (hb hby at_76) ?_
    show Steps p.tables e below (T44.setTop (mkF m 77 #[.val (.int p1), .val (.int p2), .val (.int p3), .val (.int p4), .val (.int c0), .val (.int c1), .val (.int c2), .val (.int c3), .val (.ref b20), .val (.ref b28), .unset, .unset, .unset] [(.int (1 : Int32)), (.ref b41), (.ref b41), (.ref b39), (.ref b39)])) t
    refine XS.iload X44.here hx rfl (hb hby at_77) rfl ?_
    exact k
  refine WP.st bk45 ?_
  clear bk45
  obtain ⟨cl46, Ar46, q46, S46, N46, H46, G46⟩ := V_b41
  have hin46 : ¬ ((1 : Int32) < 0 ∨ cl46.slots.size ≤ ((1 : Int32)).toNatClampNeg) := inb_of S46 ⟨by decide, by decide⟩
  obtain ⟨T47, h47, X47, e47, W47, st47⟩ := stC X44 hx hZ e44 Ar46 (j := (1 : Int32)) hin46 (g := (mkF m 79 #[.val (.int p1), .val (.int p2), .val (.int p3), .val (.int p4), .val (.int c0), .val (.int c1), .val (.int c2), .val (.int c3), .val (.ref b20), .val (.ref b28), .unset, .unset, .unset] [(.int c1), (.int (1 : Int32)), (.ref b41), (.ref b41), (.ref b39), (.ref b39)])) rfl rfl (hb hby at_79)
  refine WP.st st47 ?_
  clear st47
  have Vn : Arv Z h47 b41 k41 .char (3 : Int32) [(.int (nar .char c0)), (.int (nar .char c1)), (.int (0 : Int32))] (.int (0 : Int32)) := Arv.set Ar46 q46 S46 N46 H46 G46 (fits_nar_char _) W47 1 rfl (Nat.le_of_ble_eq_true rfl)
  replace OLD := OLD.wr W47 g_b41
  replace E_b20 := E_b20.wr W47
  replace V_b22 := V_b22.other W47 ne_b22_b41
  replace F_b20_coder := F_b20_coder.other W47 (Or.inl ne_b20_b41)
  replace F_b20_value := F_b20_value.other W47 (Or.inl ne_b20_b41)
  replace V_tb26 := V_tb26.other W47 ne_tb26_b41
  replace E_b28 := E_b28.wr W47
  replace V_b30 := V_b30.other W47 ne_b30_b41
  replace F_b28_coder := F_b28_coder.other W47 (Or.inl ne_b28_b41)
  replace F_b28_value := F_b28_value.other W47 (Or.inl ne_b28_b41)
  replace V_tb37 := V_tb37.other W47 ne_tb37_b41
  replace E_b39 := E_b39.wr W47
  replace F_b39_coder := F_b39_coder.other W47 (Or.inl ne_b39_b41)
  replace F_b39_value := F_b39_value.other W47 (Or.inl ne_b39_b41)
  replace Z0 := Nat.le_trans Z0 (Keep.of_wr W47).1
  replace V_b41 := Vn
  replace NF := Fr.snoc X47 NF g_b41
  clear W47 hin46 q46 S46 N46 H46 G46 Ar46
  show WP p.tables e below _ T47 (mkF m 80 #[.val (.int p1), .val (.int p2), .val (.int p3), .val (.int p4), .val (.int c0), .val (.int c1), .val (.int c2), .val (.int c3), .val (.ref b20), .val (.ref b28), .unset, .unset, .unset] [(.ref b41), (.ref b39), (.ref b39)])
  have bk48 : ∀ t, Steps p.tables e below (T47.setTop (mkF m 84 #[.val (.int p1), .val (.int p2), .val (.int p3), .val (.int p4), .val (.int c0), .val (.int c1), .val (.int c2), .val (.int c3), .val (.ref b20), .val (.ref b28), .unset, .unset, .unset] [(.int c2), (.int (2 : Int32)), (.ref b41), (.ref b41), (.ref b39), (.ref b39)])) t → Steps p.tables e below (T47.setTop (mkF m 80 #[.val (.int p1), .val (.int p2), .val (.int p3), .val (.int p4), .val (.int c0), .val (.int c1), .val (.int c2), .val (.int c3), .val (.ref b20), .val (.ref b28), .unset, .unset, .unset] [(.ref b41), (.ref b39), (.ref b39)])) t := fun t k => by
    refine XS.dup X47.here hx rfl (hb hby at_80) rfl rfl ?_
    show Steps p.tables e below (T47.setTop (mkF m 81 #[.val (.int p1), .val (.int p2), .val (.int p3), .val (.int p4), .val (.int c0), .val (.int c1), .val (.int c2), .val (.int c3), .val (.ref b20), .val (.ref b28), .unset, .unset, .unset] [(.ref b41), (.ref b41), (.ref b39), (.ref b39)])) t
    refine XS.iconst X47.here hx rfl (hb hby at_81) ?_
    show Steps p.tables e below (T47.setTop (mkF m 82 #[.val (.int p1), .val (.int p2), .val (.int p3), .val (.int p4), .val (.int c0), .val (.int c1), .val (.int c2), .val (.int c3), .val (.ref b20), .val (.ref b28), .unset, .unset, .unset] [(.int (2 : Int32)), (.ref b41), (.ref b41), (.ref b39), (.ref b39)])) t
    refine XS.iload X47.here hx rfl (hb hby at_82) rfl ?_
    exact k
  refine WP.st bk48 ?_
  clear bk48
  obtain ⟨cl49, Ar49, q49, S49, N49, H49, G49⟩ := V_b41
  have hin49 : ¬ ((2 : Int32) < 0 ∨ cl49.slots.size ≤ ((2 : Int32)).toNatClampNeg) := inb_of S49 ⟨by decide, by decide⟩
  obtain ⟨T50, h50, X50, e50, W50, st50⟩ := stC X47 hx hZ e47 Ar49 (j := (2 : Int32)) hin49 (g := (mkF m 84 #[.val (.int p1), .val (.int p2), .val (.int p3), .val (.int p4), .val (.int c0), .val (.int c1), .val (.int c2), .val (.int c3), .val (.ref b20), .val (.ref b28), .unset, .unset, .unset] [(.int c2), (.int (2 : Int32)), (.ref b41), (.ref b41), (.ref b39), (.ref b39)])) rfl rfl (hb hby at_84)
  refine WP.st st50 ?_
  clear st50
  have Vn : Arv Z h50 b41 k41 .char (3 : Int32) [(.int (nar .char c0)), (.int (nar .char c1)), (.int (nar .char c2))] (.int (0 : Int32)) := Arv.set Ar49 q49 S49 N49 H49 G49 (fits_nar_char _) W50 2 rfl (Nat.le_of_ble_eq_true rfl)
  replace OLD := OLD.wr W50 g_b41
  replace E_b20 := E_b20.wr W50
  replace V_b22 := V_b22.other W50 ne_b22_b41
  replace F_b20_coder := F_b20_coder.other W50 (Or.inl ne_b20_b41)
  replace F_b20_value := F_b20_value.other W50 (Or.inl ne_b20_b41)
  replace V_tb26 := V_tb26.other W50 ne_tb26_b41
  replace E_b28 := E_b28.wr W50
  replace V_b30 := V_b30.other W50 ne_b30_b41
  replace F_b28_coder := F_b28_coder.other W50 (Or.inl ne_b28_b41)
  replace F_b28_value := F_b28_value.other W50 (Or.inl ne_b28_b41)
  replace V_tb37 := V_tb37.other W50 ne_tb37_b41
  replace E_b39 := E_b39.wr W50
  replace F_b39_coder := F_b39_coder.other W50 (Or.inl ne_b39_b41)
  replace F_b39_value := F_b39_value.other W50 (Or.inl ne_b39_b41)
  replace Z0 := Nat.le_trans Z0 (Keep.of_wr W50).1
  replace V_b41 := Vn
  replace NF := Fr.snoc X50 NF g_b41
  clear W50 hin49 q49 S49 N49 H49 G49 Ar49
  show WP p.tables e below _ T50 (mkF m 85 #[.val (.int p1), .val (.int p2), .val (.int p3), .val (.int p4), .val (.int c0), .val (.int c1), .val (.int c2), .val (.int c3), .val (.ref b20), .val (.ref b28), .unset, .unset, .unset] [(.ref b41), (.ref b39), (.ref b39)])
  obtain ⟨_, _, ⟨T51, L51, k51, n51⟩, -, X51, ⟨Lc51, hQ51, l51, y51, z51⟩, st51⟩ := X50.specialBack hx (y := (⟨"java/lang/String", "<init>", "([C)V"⟩ : MethodName)) rfl hown (mvT hZ (hw _ (List.mem_of_getElem? (i := 8) rfl))) (mvT hZ (hw _ (List.mem_of_getElem? (i := 9) rfl))) (mvT hZ (hw _ (List.mem_of_getElem? (i := 10) rfl))) (by decide) (StrChars.Road.backV (W := 1) hZ (own_ws hw) (kI := 4) (hw _ (List.mem_of_getElem? (i := 5) rfl)) (cs := ([(nar .char c0), (nar .char c1), (nar .char c2)] : List Int32)) (bs := (([(nar .char c0), (nar .char c1), (nar .char c2)] : List Int32).map (fun c => c.toInt8.toInt32))) (n := 3) g_b39 Z0 E_b39 F_b39_value F_b39_coder V_b41 (O2.ext OLD.2) hz rfl rfl (by decide) (by decide) (own_hp (by intro c hc; simp only [List.mem_cons, List.not_mem_nil, or_false] at hc; rcases hc with rfl | rfl | rfl <;> first | exact own_byte_nar hb0 | exact own_byte_nar hb1 | exact own_byte_nar hb2)) rfl (by decide) (by decide)) (g := (mkF m 85 #[.val (.int p1), .val (.int p2), .val (.int p3), .val (.int p4), .val (.int c0), .val (.int c1), .val (.int c2), .val (.int c3), .val (.ref b20), .val (.ref b28), .unset, .unset, .unset] [(.ref b41), (.ref b39), (.ref b39)])) rfl (by rw [hml]; rfl) (Steps.refl _) (a := b39) (argsL := [(.ref b41)]) (rest := [(.ref b39)]) (lenOf pd_1 rfl) rfl (by show 2 * 0 + _ ≤ _; exact Nat.le_of_eq rfl) (hb hby at_85) (fun _ _ => ⟨rfl, e50, (by decide : 8 + 1 ≤ _), (by decide : 21 + 3 ≤ _)⟩)
  dsimp only [Pt.U, Pt.locs, Pt.cells, Pt.slots] at X51 l51 y51 z51 st51 hQ51
  subst l51 y51 z51
  obtain ⟨rfl, Nq51, Kq51, nE51, nC51, tb51, kb51, g_tb51, szq_tb51, nx51, nV51, nA51⟩ := hQ51
  refine WP.tr st51 ?_
  clear st51
  replace NF := Fr.app NF Nq51
  obtain ⟨h51, e51⟩ : ∃ h, T51.heap = h := ⟨_, rfl⟩
  rw [e51] at Kq51 nE51 nC51 nV51 nA51
  have ne_b20_tb51 : b20 ≠ tb51 := Nat.ne_of_lt (Nat.lt_of_lt_of_le E_b20.lt szq_tb51)
  have ne_b22_tb51 : b22 ≠ tb51 := Nat.ne_of_lt (Nat.lt_of_lt_of_le V_b22.lt szq_tb51)
  have ne_tb26_tb51 : tb26 ≠ tb51 := Nat.ne_of_lt (Nat.lt_of_lt_of_le V_tb26.lt szq_tb51)
  have ne_b28_tb51 : b28 ≠ tb51 := Nat.ne_of_lt (Nat.lt_of_lt_of_le E_b28.lt szq_tb51)
  have ne_b30_tb51 : b30 ≠ tb51 := Nat.ne_of_lt (Nat.lt_of_lt_of_le V_b30.lt szq_tb51)
  have ne_tb37_tb51 : tb37 ≠ tb51 := Nat.ne_of_lt (Nat.lt_of_lt_of_le V_tb37.lt szq_tb51)
  have ne_b39_tb51 : b39 ≠ tb51 := Nat.ne_of_lt (Nat.lt_of_lt_of_le E_b39.lt szq_tb51)
  have ne_b41_tb51 : b41 ≠ tb51 := Nat.ne_of_lt (Nat.lt_of_lt_of_le V_b41.lt szq_tb51)
  replace OLD := OLD.keep Kq51 (allS g_b39 all0)
  replace E_b20 := E_b20.keep Kq51
  replace V_b22 := V_b22.keep Kq51 (by exact ninS ne_b22_b39 (nin0))
  replace F_b20_coder := F_b20_coder.keep Kq51 (by exact ninS ne_b20_b39 (nin0))
  replace F_b20_value := F_b20_value.keep Kq51 (by exact ninS ne_b20_b39 (nin0))
  replace V_tb26 := V_tb26.keep Kq51 (by exact ninS ne_tb26_b39 (nin0))
  replace E_b28 := E_b28.keep Kq51
  replace V_b30 := V_b30.keep Kq51 (by exact ninS ne_b30_b39 (nin0))
  replace F_b28_coder := F_b28_coder.keep Kq51 (by exact ninS ne_b28_b39 (nin0))
  replace F_b28_value := F_b28_value.keep Kq51 (by exact ninS ne_b28_b39 (nin0))
  replace V_tb37 := V_tb37.keep Kq51 (by exact ninS ne_tb37_b39 (nin0))
  replace E_b39 := E_b39.keep Kq51
  clear F_b39_coder
  clear F_b39_value
  replace V_b41 := V_b41.keep Kq51 (by exact ninS (Ne.symm ne_b39_b41) (nin0))
  replace Z0 := Nat.le_trans Z0 Kq51.1
  clear E_b39
  have E_b39 := nE51
  clear nE51
  have F_b39_coder := nC51
  clear nC51
  have F_b39_value := nV51
  clear nV51
  have V_tb51 := nA51
  clear nA51 Kq51
  show WP p.tables e below _ T51 (mkF m 88 #[.val (.int p1), .val (.int p2), .val (.int p3), .val (.int p4), .val (.int c0), .val (.int c1), .val (.int c2), .val (.int c3), .val (.ref b20), .val (.ref b28), .unset, .unset, .unset] [(.ref b39)])
  have bk52 : ∀ t, Steps p.tables e below (T51.setTop (mkF m 90 #[.val (.int p1), .val (.int p2), .val (.int p3), .val (.int p4), .val (.int c0), .val (.int c1), .val (.int c2), .val (.int c3), .val (.ref b20), .val (.ref b28), .val (.ref b39), .unset, .unset] [])) t → Steps p.tables e below (T51.setTop (mkF m 88 #[.val (.int p1), .val (.int p2), .val (.int p3), .val (.int p4), .val (.int c0), .val (.int c1), .val (.int c2), .val (.int c3), .val (.ref b20), .val (.ref b28), .unset, .unset, .unset] [(.ref b39)])) t := fun t k => by
    refine XS.astore X51.here hx rfl (hb hby at_88) rfl rfl (l' := #[.val (.int p1), .val (.int p2), .val (.int p3), .val (.int p4), .val (.int c0), .val (.int c1), .val (.int c2), .val (.int c3), .val (.ref b20), .val (.ref b28), .val (.ref b39), .unset, .unset]) rfl ?_
    exact k
  refine WP.st bk52 ?_
  clear bk52
  obtain ⟨T53, h53, X53, e53, E53, A53, D53, -, st53⟩ := newO X51 hx hZ hown (hw _ (List.mem_of_getElem? (i := 4) rfl)) (hw _ (List.mem_of_getElem? (i := 5) rfl)) (hw _ (List.mem_of_getElem? (i := 6) rfl)) e51 (g := (mkF m 90 #[.val (.int p1), .val (.int p2), .val (.int p3), .val (.int p4), .val (.int c0), .val (.int c1), .val (.int c2), .val (.int c3), .val (.ref b20), .val (.ref b28), .val (.ref b39), .unset, .unset] [])) rfl (hb hby at_90) (by decide) (by decide)
  obtain ⟨b53, g53⟩ : ∃ z, z = h51.size := ⟨_, rfl⟩
  rw [← g53] at A53 D53 st53
  refine WP.st st53 ?_
  clear st53
  have ne_b20_b53 : b20 ≠ b53 := Nat.ne_of_lt (Nat.lt_of_lt_of_le E_b20.lt (Nat.le_of_eq g53.symm))
  have ne_b22_b53 : b22 ≠ b53 := Nat.ne_of_lt (Nat.lt_of_lt_of_le V_b22.lt (Nat.le_of_eq g53.symm))
  have ne_tb26_b53 : tb26 ≠ b53 := Nat.ne_of_lt (Nat.lt_of_lt_of_le V_tb26.lt (Nat.le_of_eq g53.symm))
  have ne_b28_b53 : b28 ≠ b53 := Nat.ne_of_lt (Nat.lt_of_lt_of_le E_b28.lt (Nat.le_of_eq g53.symm))
  have ne_b30_b53 : b30 ≠ b53 := Nat.ne_of_lt (Nat.lt_of_lt_of_le V_b30.lt (Nat.le_of_eq g53.symm))
  have ne_tb37_b53 : tb37 ≠ b53 := Nat.ne_of_lt (Nat.lt_of_lt_of_le V_tb37.lt (Nat.le_of_eq g53.symm))
  have ne_b39_b53 : b39 ≠ b53 := Nat.ne_of_lt (Nat.lt_of_lt_of_le E_b39.lt (Nat.le_of_eq g53.symm))
  have ne_b41_b53 : b41 ≠ b53 := Nat.ne_of_lt (Nat.lt_of_lt_of_le V_b41.lt (Nat.le_of_eq g53.symm))
  have ne_tb51_b53 : tb51 ≠ b53 := Nat.ne_of_lt (Nat.lt_of_lt_of_le V_tb51.lt (Nat.le_of_eq g53.symm))
  have g_b53 : n0 ≤ b53 := Nat.le_trans Z0 (Nat.le_of_eq g53.symm)
  replace OLD := OLD.ext E53
  replace E_b20 := E_b20.ext E53
  replace V_b22 := V_b22.ext E53
  replace F_b20_coder := F_b20_coder.ext E53
  replace F_b20_value := F_b20_value.ext E53
  replace V_tb26 := V_tb26.ext E53
  replace E_b28 := E_b28.ext E53
  replace V_b30 := V_b30.ext E53
  replace F_b28_coder := F_b28_coder.ext E53
  replace F_b28_value := F_b28_value.ext E53
  replace V_tb37 := V_tb37.ext E53
  replace E_b39 := E_b39.ext E53
  replace V_b41 := V_b41.ext E53
  replace F_b39_coder := F_b39_coder.ext E53
  replace F_b39_value := F_b39_value.ext E53
  replace V_tb51 := V_tb51.ext E53
  replace Z0 := Nat.le_trans Z0 E53.1
  have E_b53 := A53
  have F_b53_coder : Fld Z h53 b53 "java/lang/String" "coder" "B" (.int (0 : Int32)) := D53 (Or.inr (hw _ (List.mem_of_getElem? (i := 31) rfl))) (ty := .byte) (by decide)
  have F_b53_value : Fld Z h53 b53 "java/lang/String" "value" "[B" .null := D53 (Or.inr (hw _ (List.mem_of_getElem? (i := 33) rfl))) (ty := (.array .byte)) (by decide)
  clear D53 A53
  show WP p.tables e below _ T53 (mkF m 93 #[.val (.int p1), .val (.int p2), .val (.int p3), .val (.int p4), .val (.int c0), .val (.int c1), .val (.int c2), .val (.int c3), .val (.ref b20), .val (.ref b28), .val (.ref b39), .unset, .unset] [(.ref b53)])
  have bk54 : ∀ t, Steps p.tables e below (T53.setTop (mkF m 95 #[.val (.int p1), .val (.int p2), .val (.int p3), .val (.int p4), .val (.int c0), .val (.int c1), .val (.int c2), .val (.int c3), .val (.ref b20), .val (.ref b28), .val (.ref b39), .unset, .unset] [(.int (4 : Int32)), (.ref b53), (.ref b53)])) t → Steps p.tables e below (T53.setTop (mkF m 93 #[.val (.int p1), .val (.int p2), .val (.int p3), .val (.int p4), .val (.int c0), .val (.int c1), .val (.int c2), .val (.int c3), .val (.ref b20), .val (.ref b28), .val (.ref b39), .unset, .unset] [(.ref b53)])) t := fun t k => by
    refine XS.dup X53.here hx rfl (hb hby at_93) rfl rfl ?_
    show Steps p.tables e below (T53.setTop (mkF m 94 #[.val (.int p1), .val (.int p2), .val (.int p3), .val (.int p4), .val (.int c0), .val (.int c1), .val (.int c2), .val (.int c3), .val (.ref b20), .val (.ref b28), .val (.ref b39), .unset, .unset] [(.ref b53), (.ref b53)])) t
    refine XS.iconst X53.here hx rfl (hb hby at_94) ?_
    exact k
  refine WP.st bk54 ?_
  clear bk54
  obtain ⟨T55, h55, k55, X55, e55, E55, A55, st55⟩ := newP X53 hx hZ (hw _ (List.mem_of_getElem? (i := 7) rfl)) e53 (g := (mkF m 95 #[.val (.int p1), .val (.int p2), .val (.int p3), .val (.int p4), .val (.int c0), .val (.int c1), .val (.int c2), .val (.int c3), .val (.ref b20), .val (.ref b28), .val (.ref b39), .unset, .unset] [(.int (4 : Int32)), (.ref b53), (.ref b53)])) rfl (hb hby at_95) rfl (by decide) (cap := 4) (by decide) (by decide) (by decide) (by decide)
  obtain ⟨b55, g55⟩ : ∃ z, z = h53.size := ⟨_, rfl⟩
  rw [← g55] at A55 st55
  refine WP.st st55 ?_
  clear st55
  have ne_b20_b55 : b20 ≠ b55 := Nat.ne_of_lt (Nat.lt_of_lt_of_le E_b20.lt (Nat.le_of_eq g55.symm))
  have ne_b22_b55 : b22 ≠ b55 := Nat.ne_of_lt (Nat.lt_of_lt_of_le V_b22.lt (Nat.le_of_eq g55.symm))
  have ne_tb26_b55 : tb26 ≠ b55 := Nat.ne_of_lt (Nat.lt_of_lt_of_le V_tb26.lt (Nat.le_of_eq g55.symm))
  have ne_b28_b55 : b28 ≠ b55 := Nat.ne_of_lt (Nat.lt_of_lt_of_le E_b28.lt (Nat.le_of_eq g55.symm))
  have ne_b30_b55 : b30 ≠ b55 := Nat.ne_of_lt (Nat.lt_of_lt_of_le V_b30.lt (Nat.le_of_eq g55.symm))
  have ne_tb37_b55 : tb37 ≠ b55 := Nat.ne_of_lt (Nat.lt_of_lt_of_le V_tb37.lt (Nat.le_of_eq g55.symm))
  have ne_b39_b55 : b39 ≠ b55 := Nat.ne_of_lt (Nat.lt_of_lt_of_le E_b39.lt (Nat.le_of_eq g55.symm))
  have ne_b41_b55 : b41 ≠ b55 := Nat.ne_of_lt (Nat.lt_of_lt_of_le V_b41.lt (Nat.le_of_eq g55.symm))
  have ne_tb51_b55 : tb51 ≠ b55 := Nat.ne_of_lt (Nat.lt_of_lt_of_le V_tb51.lt (Nat.le_of_eq g55.symm))
  have ne_b53_b55 : b53 ≠ b55 := Nat.ne_of_lt (Nat.lt_of_lt_of_le E_b53.lt (Nat.le_of_eq g55.symm))
  have g_b55 : n0 ≤ b55 := Nat.le_trans Z0 (Nat.le_of_eq g55.symm)
  replace OLD := OLD.ext E55
  replace E_b20 := E_b20.ext E55
  replace V_b22 := V_b22.ext E55
  replace F_b20_coder := F_b20_coder.ext E55
  replace F_b20_value := F_b20_value.ext E55
  replace V_tb26 := V_tb26.ext E55
  replace E_b28 := E_b28.ext E55
  replace V_b30 := V_b30.ext E55
  replace F_b28_coder := F_b28_coder.ext E55
  replace F_b28_value := F_b28_value.ext E55
  replace V_tb37 := V_tb37.ext E55
  replace E_b39 := E_b39.ext E55
  replace V_b41 := V_b41.ext E55
  replace F_b39_coder := F_b39_coder.ext E55
  replace F_b39_value := F_b39_value.ext E55
  replace V_tb51 := V_tb51.ext E55
  replace E_b53 := E_b53.ext E55
  replace F_b53_coder := F_b53_coder.ext E55
  replace F_b53_value := F_b53_value.ext E55
  replace Z0 := Nat.le_trans Z0 E55.1
  have V_b55 : Arv Z h55 b55 k55 .char (4 : Int32) [(.int (0 : Int32)), (.int (0 : Int32)), (.int (0 : Int32)), (.int (0 : Int32))] (.int (0 : Int32)) := (Arv.new A55 (by decide)).pad (pad_rep [] (.int (0 : Int32)) 4)
  show WP p.tables e below _ T55 (mkF m 97 #[.val (.int p1), .val (.int p2), .val (.int p3), .val (.int p4), .val (.int c0), .val (.int c1), .val (.int c2), .val (.int c3), .val (.ref b20), .val (.ref b28), .val (.ref b39), .unset, .unset] [(.ref b55), (.ref b53), (.ref b53)])
  have bk56 : ∀ t, Steps p.tables e below (T55.setTop (mkF m 101 #[.val (.int p1), .val (.int p2), .val (.int p3), .val (.int p4), .val (.int c0), .val (.int c1), .val (.int c2), .val (.int c3), .val (.ref b20), .val (.ref b28), .val (.ref b39), .unset, .unset] [(.int c0), (.int (0 : Int32)), (.ref b55), (.ref b55), (.ref b53), (.ref b53)])) t → Steps p.tables e below (T55.setTop (mkF m 97 #[.val (.int p1), .val (.int p2), .val (.int p3), .val (.int p4), .val (.int c0), .val (.int c1), .val (.int c2), .val (.int c3), .val (.ref b20), .val (.ref b28), .val (.ref b39), .unset, .unset] [(.ref b55), (.ref b53), (.ref b53)])) t := fun t k => by
    refine XS.dup X55.here hx rfl (hb hby at_97) rfl rfl ?_
    show Steps p.tables e below (T55.setTop (mkF m 98 #[.val (.int p1), .val (.int p2), .val (.int p3), .val (.int p4), .val (.int c0), .val (.int c1), .val (.int c2), .val (.int c3), .val (.ref b20), .val (.ref b28), .val (.ref b39), .unset, .unset] [(.ref b55), (.ref b55), (.ref b53), (.ref b53)])) t
    refine XS.iconst X55.here hx rfl (hb hby at_98) ?_
    show Steps p.tables e below (T55.setTop (mkF m 99 #[.val (.int p1), .val (.int p2), .val (.int p3), .val (.int p4), .val (.int c0), .val (.int c1), .val (.int c2), .val (.int c3), .val (.ref b20), .val (.ref b28), .val (.ref b39), .unset, .unset] [(.int (0 : Int32)), (.ref b55), (.ref b55), (.ref b53), (.ref b53)])) t
    refine XS.iload X55.here hx rfl (hb hby at_99) rfl ?_
    exact k
  refine WP.st bk56 ?_
  clear bk56
  obtain ⟨cl57, Ar57, q57, S57, N57, H57, G57⟩ := V_b55
  have hin57 : ¬ ((0 : Int32) < 0 ∨ cl57.slots.size ≤ ((0 : Int32)).toNatClampNeg) := inb_of S57 ⟨by decide, by decide⟩
  obtain ⟨T58, h58, X58, e58, W58, st58⟩ := stC X55 hx hZ e55 Ar57 (j := (0 : Int32)) hin57 (g := (mkF m 101 #[.val (.int p1), .val (.int p2), .val (.int p3), .val (.int p4), .val (.int c0), .val (.int c1), .val (.int c2), .val (.int c3), .val (.ref b20), .val (.ref b28), .val (.ref b39), .unset, .unset] [(.int c0), (.int (0 : Int32)), (.ref b55), (.ref b55), (.ref b53), (.ref b53)])) rfl rfl (hb hby at_101)
  refine WP.st st58 ?_
  clear st58
  have Vn : Arv Z h58 b55 k55 .char (4 : Int32) [(.int (nar .char c0)), (.int (0 : Int32)), (.int (0 : Int32)), (.int (0 : Int32))] (.int (0 : Int32)) := Arv.set Ar57 q57 S57 N57 H57 G57 (fits_nar_char _) W58 0 rfl (Nat.le_of_ble_eq_true rfl)
  replace OLD := OLD.wr W58 g_b55
  replace E_b20 := E_b20.wr W58
  replace V_b22 := V_b22.other W58 ne_b22_b55
  replace F_b20_coder := F_b20_coder.other W58 (Or.inl ne_b20_b55)
  replace F_b20_value := F_b20_value.other W58 (Or.inl ne_b20_b55)
  replace V_tb26 := V_tb26.other W58 ne_tb26_b55
  replace E_b28 := E_b28.wr W58
  replace V_b30 := V_b30.other W58 ne_b30_b55
  replace F_b28_coder := F_b28_coder.other W58 (Or.inl ne_b28_b55)
  replace F_b28_value := F_b28_value.other W58 (Or.inl ne_b28_b55)
  replace V_tb37 := V_tb37.other W58 ne_tb37_b55
  replace E_b39 := E_b39.wr W58
  replace V_b41 := V_b41.other W58 ne_b41_b55
  replace F_b39_coder := F_b39_coder.other W58 (Or.inl ne_b39_b55)
  replace F_b39_value := F_b39_value.other W58 (Or.inl ne_b39_b55)
  replace V_tb51 := V_tb51.other W58 ne_tb51_b55
  replace E_b53 := E_b53.wr W58
  replace F_b53_coder := F_b53_coder.other W58 (Or.inl ne_b53_b55)
  replace F_b53_value := F_b53_value.other W58 (Or.inl ne_b53_b55)
  replace Z0 := Nat.le_trans Z0 (Keep.of_wr W58).1
  replace V_b55 := Vn
  replace NF := Fr.snoc X58 NF g_b55
  clear W58 hin57 q57 S57 N57 H57 G57 Ar57
  show WP p.tables e below _ T58 (mkF m 102 #[.val (.int p1), .val (.int p2), .val (.int p3), .val (.int p4), .val (.int c0), .val (.int c1), .val (.int c2), .val (.int c3), .val (.ref b20), .val (.ref b28), .val (.ref b39), .unset, .unset] [(.ref b55), (.ref b53), (.ref b53)])
  have bk59 : ∀ t, Steps p.tables e below (T58.setTop (mkF m 106 #[.val (.int p1), .val (.int p2), .val (.int p3), .val (.int p4), .val (.int c0), .val (.int c1), .val (.int c2), .val (.int c3), .val (.ref b20), .val (.ref b28), .val (.ref b39), .unset, .unset] [(.int c1), (.int (1 : Int32)), (.ref b55), (.ref b55), (.ref b53), (.ref b53)])) t → Steps p.tables e below (T58.setTop (mkF m 102 #[.val (.int p1), .val (.int p2), .val (.int p3), .val (.int p4), .val (.int c0), .val (.int c1), .val (.int c2), .val (.int c3), .val (.ref b20), .val (.ref b28), .val (.ref b39), .unset, .unset] [(.ref b55), (.ref b53), (.ref b53)])) t := fun t k => by
    refine XS.dup X58.here hx rfl (hb hby at_102) rfl rfl ?_
    show Steps p.tables e below (T58.setTop (mkF m 103 #[.val (.int p1), .val (.int p2), .val (.int p3), .val (.int p4), .val (.int c0), .val (.int c1), .val (.int c2), .val (.int c3), .val (.ref b20), .val (.ref b28), .val (.ref b39), .unset, .unset] [(.ref b55), (.ref b55), (.ref b53), (.ref b53)])) t
    refine XS.iconst X58.here hx rfl (hb hby at_103) ?_
    show Steps p.tables e below (T58.setTop (mkF m 104 #[.val (.int p1), .val (.int p2), .val (.int p3), .val (.int p4), .val (.int c0), .val (.int c1), .val (.int c2), .val (.int c3), .val (.ref b20), .val (.ref b28), .val (.ref b39), .unset, .unset] [(.int (1 : Int32)), (.ref b55), (.ref b55), (.ref b53), (.ref b53)])) t
    refine XS.iload X58.here hx rfl (hb hby at_104) rfl ?_
    exact k
  refine WP.st bk59 ?_
  clear bk59
  obtain ⟨cl60, Ar60, q60, S60, N60, H60, G60⟩ := V_b55
  have hin60 : ¬ ((1 : Int32) < 0 ∨ cl60.slots.size ≤ ((1 : Int32)).toNatClampNeg) := inb_of S60 ⟨by decide, by decide⟩
  obtain ⟨T61, h61, X61, e61, W61, st61⟩ := stC X58 hx hZ e58 Ar60 (j := (1 : Int32)) hin60 (g := (mkF m 106 #[.val (.int p1), .val (.int p2), .val (.int p3), .val (.int p4), .val (.int c0), .val (.int c1), .val (.int c2), .val (.int c3), .val (.ref b20), .val (.ref b28), .val (.ref b39), .unset, .unset] [(.int c1), (.int (1 : Int32)), (.ref b55), (.ref b55), (.ref b53), (.ref b53)])) rfl rfl (hb hby at_106)
  refine WP.st st61 ?_
  clear st61
  have Vn : Arv Z h61 b55 k55 .char (4 : Int32) [(.int (nar .char c0)), (.int (nar .char c1)), (.int (0 : Int32)), (.int (0 : Int32))] (.int (0 : Int32)) := Arv.set Ar60 q60 S60 N60 H60 G60 (fits_nar_char _) W61 1 rfl (Nat.le_of_ble_eq_true rfl)
  replace OLD := OLD.wr W61 g_b55
  replace E_b20 := E_b20.wr W61
  replace V_b22 := V_b22.other W61 ne_b22_b55
  replace F_b20_coder := F_b20_coder.other W61 (Or.inl ne_b20_b55)
  replace F_b20_value := F_b20_value.other W61 (Or.inl ne_b20_b55)
  replace V_tb26 := V_tb26.other W61 ne_tb26_b55
  replace E_b28 := E_b28.wr W61
  replace V_b30 := V_b30.other W61 ne_b30_b55
  replace F_b28_coder := F_b28_coder.other W61 (Or.inl ne_b28_b55)
  replace F_b28_value := F_b28_value.other W61 (Or.inl ne_b28_b55)
  replace V_tb37 := V_tb37.other W61 ne_tb37_b55
  replace E_b39 := E_b39.wr W61
  replace V_b41 := V_b41.other W61 ne_b41_b55
  replace F_b39_coder := F_b39_coder.other W61 (Or.inl ne_b39_b55)
  replace F_b39_value := F_b39_value.other W61 (Or.inl ne_b39_b55)
  replace V_tb51 := V_tb51.other W61 ne_tb51_b55
  replace E_b53 := E_b53.wr W61
  replace F_b53_coder := F_b53_coder.other W61 (Or.inl ne_b53_b55)
  replace F_b53_value := F_b53_value.other W61 (Or.inl ne_b53_b55)
  replace Z0 := Nat.le_trans Z0 (Keep.of_wr W61).1
  replace V_b55 := Vn
  replace NF := Fr.snoc X61 NF g_b55
  clear W61 hin60 q60 S60 N60 H60 G60 Ar60
  show WP p.tables e below _ T61 (mkF m 107 #[.val (.int p1), .val (.int p2), .val (.int p3), .val (.int p4), .val (.int c0), .val (.int c1), .val (.int c2), .val (.int c3), .val (.ref b20), .val (.ref b28), .val (.ref b39), .unset, .unset] [(.ref b55), (.ref b53), (.ref b53)])
  have bk62 : ∀ t, Steps p.tables e below (T61.setTop (mkF m 111 #[.val (.int p1), .val (.int p2), .val (.int p3), .val (.int p4), .val (.int c0), .val (.int c1), .val (.int c2), .val (.int c3), .val (.ref b20), .val (.ref b28), .val (.ref b39), .unset, .unset] [(.int c2), (.int (2 : Int32)), (.ref b55), (.ref b55), (.ref b53), (.ref b53)])) t → Steps p.tables e below (T61.setTop (mkF m 107 #[.val (.int p1), .val (.int p2), .val (.int p3), .val (.int p4), .val (.int c0), .val (.int c1), .val (.int c2), .val (.int c3), .val (.ref b20), .val (.ref b28), .val (.ref b39), .unset, .unset] [(.ref b55), (.ref b53), (.ref b53)])) t := fun t k => by
    refine XS.dup X61.here hx rfl (hb hby at_107) rfl rfl ?_
    show Steps p.tables e below (T61.setTop (mkF m 108 #[.val (.int p1), .val (.int p2), .val (.int p3), .val (.int p4), .val (.int c0), .val (.int c1), .val (.int c2), .val (.int c3), .val (.ref b20), .val (.ref b28), .val (.ref b39), .unset, .unset] [(.ref b55), (.ref b55), (.ref b53), (.ref b53)])) t
    refine XS.iconst X61.here hx rfl (hb hby at_108) ?_
    show Steps p.tables e below (T61.setTop (mkF m 109 #[.val (.int p1), .val (.int p2), .val (.int p3), .val (.int p4), .val (.int c0), .val (.int c1), .val (.int c2), .val (.int c3), .val (.ref b20), .val (.ref b28), .val (.ref b39), .unset, .unset] [(.int (2 : Int32)), (.ref b55), (.ref b55), (.ref b53), (.ref b53)])) t
    refine XS.iload X61.here hx rfl (hb hby at_109) rfl ?_
    exact k
  refine WP.st bk62 ?_
  clear bk62
  obtain ⟨cl63, Ar63, q63, S63, N63, H63, G63⟩ := V_b55
  have hin63 : ¬ ((2 : Int32) < 0 ∨ cl63.slots.size ≤ ((2 : Int32)).toNatClampNeg) := inb_of S63 ⟨by decide, by decide⟩
  obtain ⟨T64, h64, X64, e64, W64, st64⟩ := stC X61 hx hZ e61 Ar63 (j := (2 : Int32)) hin63 (g := (mkF m 111 #[.val (.int p1), .val (.int p2), .val (.int p3), .val (.int p4), .val (.int c0), .val (.int c1), .val (.int c2), .val (.int c3), .val (.ref b20), .val (.ref b28), .val (.ref b39), .unset, .unset] [(.int c2), (.int (2 : Int32)), (.ref b55), (.ref b55), (.ref b53), (.ref b53)])) rfl rfl (hb hby at_111)
  refine WP.st st64 ?_
  clear st64
  have Vn : Arv Z h64 b55 k55 .char (4 : Int32) [(.int (nar .char c0)), (.int (nar .char c1)), (.int (nar .char c2)), (.int (0 : Int32))] (.int (0 : Int32)) := Arv.set Ar63 q63 S63 N63 H63 G63 (fits_nar_char _) W64 2 rfl (Nat.le_of_ble_eq_true rfl)
  replace OLD := OLD.wr W64 g_b55
  replace E_b20 := E_b20.wr W64
  replace V_b22 := V_b22.other W64 ne_b22_b55
  replace F_b20_coder := F_b20_coder.other W64 (Or.inl ne_b20_b55)
  replace F_b20_value := F_b20_value.other W64 (Or.inl ne_b20_b55)
  replace V_tb26 := V_tb26.other W64 ne_tb26_b55
  replace E_b28 := E_b28.wr W64
  replace V_b30 := V_b30.other W64 ne_b30_b55
  replace F_b28_coder := F_b28_coder.other W64 (Or.inl ne_b28_b55)
  replace F_b28_value := F_b28_value.other W64 (Or.inl ne_b28_b55)
  replace V_tb37 := V_tb37.other W64 ne_tb37_b55
  replace E_b39 := E_b39.wr W64
  replace V_b41 := V_b41.other W64 ne_b41_b55
  replace F_b39_coder := F_b39_coder.other W64 (Or.inl ne_b39_b55)
  replace F_b39_value := F_b39_value.other W64 (Or.inl ne_b39_b55)
  replace V_tb51 := V_tb51.other W64 ne_tb51_b55
  replace E_b53 := E_b53.wr W64
  replace F_b53_coder := F_b53_coder.other W64 (Or.inl ne_b53_b55)
  replace F_b53_value := F_b53_value.other W64 (Or.inl ne_b53_b55)
  replace Z0 := Nat.le_trans Z0 (Keep.of_wr W64).1
  replace V_b55 := Vn
  replace NF := Fr.snoc X64 NF g_b55
  clear W64 hin63 q63 S63 N63 H63 G63 Ar63
  show WP p.tables e below _ T64 (mkF m 112 #[.val (.int p1), .val (.int p2), .val (.int p3), .val (.int p4), .val (.int c0), .val (.int c1), .val (.int c2), .val (.int c3), .val (.ref b20), .val (.ref b28), .val (.ref b39), .unset, .unset] [(.ref b55), (.ref b53), (.ref b53)])
  have bk65 : ∀ t, Steps p.tables e below (T64.setTop (mkF m 116 #[.val (.int p1), .val (.int p2), .val (.int p3), .val (.int p4), .val (.int c0), .val (.int c1), .val (.int c2), .val (.int c3), .val (.ref b20), .val (.ref b28), .val (.ref b39), .unset, .unset] [(.int c3), (.int (3 : Int32)), (.ref b55), (.ref b55), (.ref b53), (.ref b53)])) t → Steps p.tables e below (T64.setTop (mkF m 112 #[.val (.int p1), .val (.int p2), .val (.int p3), .val (.int p4), .val (.int c0), .val (.int c1), .val (.int c2), .val (.int c3), .val (.ref b20), .val (.ref b28), .val (.ref b39), .unset, .unset] [(.ref b55), (.ref b53), (.ref b53)])) t := fun t k => by
    refine XS.dup X64.here hx rfl (hb hby at_112) rfl rfl ?_
    show Steps p.tables e below (T64.setTop (mkF m 113 #[.val (.int p1), .val (.int p2), .val (.int p3), .val (.int p4), .val (.int c0), .val (.int c1), .val (.int c2), .val (.int c3), .val (.ref b20), .val (.ref b28), .val (.ref b39), .unset, .unset] [(.ref b55), (.ref b55), (.ref b53), (.ref b53)])) t
    refine XS.iconst X64.here hx rfl (hb hby at_113) ?_
    show Steps p.tables e below (T64.setTop (mkF m 114 #[.val (.int p1), .val (.int p2), .val (.int p3), .val (.int p4), .val (.int c0), .val (.int c1), .val (.int c2), .val (.int c3), .val (.ref b20), .val (.ref b28), .val (.ref b39), .unset, .unset] [(.int (3 : Int32)), (.ref b55), (.ref b55), (.ref b53), (.ref b53)])) t
    refine XS.iload X64.here hx rfl (hb hby at_114) rfl ?_
    exact k
  refine WP.st bk65 ?_
  clear bk65
  obtain ⟨cl66, Ar66, q66, S66, N66, H66, G66⟩ := V_b55
  have hin66 : ¬ ((3 : Int32) < 0 ∨ cl66.slots.size ≤ ((3 : Int32)).toNatClampNeg) := inb_of S66 ⟨by decide, by decide⟩
  obtain ⟨T67, h67, X67, e67, W67, st67⟩ := stC X64 hx hZ e64 Ar66 (j := (3 : Int32)) hin66 (g := (mkF m 116 #[.val (.int p1), .val (.int p2), .val (.int p3), .val (.int p4), .val (.int c0), .val (.int c1), .val (.int c2), .val (.int c3), .val (.ref b20), .val (.ref b28), .val (.ref b39), .unset, .unset] [(.int c3), (.int (3 : Int32)), (.ref b55), (.ref b55), (.ref b53), (.ref b53)])) rfl rfl (hb hby at_116)
  refine WP.st st67 ?_
  clear st67
  have Vn : Arv Z h67 b55 k55 .char (4 : Int32) [(.int (nar .char c0)), (.int (nar .char c1)), (.int (nar .char c2)), (.int (nar .char c3))] (.int (0 : Int32)) := Arv.set Ar66 q66 S66 N66 H66 G66 (fits_nar_char _) W67 3 rfl (Nat.le_of_ble_eq_true rfl)
  replace OLD := OLD.wr W67 g_b55
  replace E_b20 := E_b20.wr W67
  replace V_b22 := V_b22.other W67 ne_b22_b55
  replace F_b20_coder := F_b20_coder.other W67 (Or.inl ne_b20_b55)
  replace F_b20_value := F_b20_value.other W67 (Or.inl ne_b20_b55)
  replace V_tb26 := V_tb26.other W67 ne_tb26_b55
  replace E_b28 := E_b28.wr W67
  replace V_b30 := V_b30.other W67 ne_b30_b55
  replace F_b28_coder := F_b28_coder.other W67 (Or.inl ne_b28_b55)
  replace F_b28_value := F_b28_value.other W67 (Or.inl ne_b28_b55)
  replace V_tb37 := V_tb37.other W67 ne_tb37_b55
  replace E_b39 := E_b39.wr W67
  replace V_b41 := V_b41.other W67 ne_b41_b55
  replace F_b39_coder := F_b39_coder.other W67 (Or.inl ne_b39_b55)
  replace F_b39_value := F_b39_value.other W67 (Or.inl ne_b39_b55)
  replace V_tb51 := V_tb51.other W67 ne_tb51_b55
  replace E_b53 := E_b53.wr W67
  replace F_b53_coder := F_b53_coder.other W67 (Or.inl ne_b53_b55)
  replace F_b53_value := F_b53_value.other W67 (Or.inl ne_b53_b55)
  replace Z0 := Nat.le_trans Z0 (Keep.of_wr W67).1
  replace V_b55 := Vn
  replace NF := Fr.snoc X67 NF g_b55
  clear W67 hin66 q66 S66 N66 H66 G66 Ar66
  show WP p.tables e below _ T67 (mkF m 117 #[.val (.int p1), .val (.int p2), .val (.int p3), .val (.int p4), .val (.int c0), .val (.int c1), .val (.int c2), .val (.int c3), .val (.ref b20), .val (.ref b28), .val (.ref b39), .unset, .unset] [(.ref b55), (.ref b53), (.ref b53)])
  obtain ⟨_, _, ⟨T68, L68, k68, n68⟩, -, X68, ⟨Lc68, hQ68, l68, y68, z68⟩, st68⟩ := X67.specialBack hx (y := (⟨"java/lang/String", "<init>", "([C)V"⟩ : MethodName)) rfl hown (mvT hZ (hw _ (List.mem_of_getElem? (i := 8) rfl))) (mvT hZ (hw _ (List.mem_of_getElem? (i := 9) rfl))) (mvT hZ (hw _ (List.mem_of_getElem? (i := 10) rfl))) (by decide) (StrChars.Road.backV (W := 1) hZ (own_ws hw) (kI := 4) (hw _ (List.mem_of_getElem? (i := 5) rfl)) (cs := ([(nar .char c0), (nar .char c1), (nar .char c2), (nar .char c3)] : List Int32)) (bs := (([(nar .char c0), (nar .char c1), (nar .char c2), (nar .char c3)] : List Int32).map (fun c => c.toInt8.toInt32))) (n := 4) g_b53 Z0 E_b53 F_b53_value F_b53_coder V_b55 (O2.ext OLD.2) hz rfl rfl (by decide) (by decide) (own_hp (by intro c hc; simp only [List.mem_cons, List.not_mem_nil, or_false] at hc; rcases hc with rfl | rfl | rfl | rfl <;> first | exact own_byte_nar hb0 | exact own_byte_nar hb1 | exact own_byte_nar hb2 | exact own_byte_nar hb3)) rfl (by decide) (by decide)) (g := (mkF m 117 #[.val (.int p1), .val (.int p2), .val (.int p3), .val (.int p4), .val (.int c0), .val (.int c1), .val (.int c2), .val (.int c3), .val (.ref b20), .val (.ref b28), .val (.ref b39), .unset, .unset] [(.ref b55), (.ref b53), (.ref b53)])) rfl (by rw [hml]; rfl) (Steps.refl _) (a := b53) (argsL := [(.ref b55)]) (rest := [(.ref b53)]) (lenOf pd_1 rfl) rfl (by show 2 * 0 + _ ≤ _; exact Nat.le_of_eq rfl) (hb hby at_117) (fun _ _ => ⟨rfl, e67, (by decide : 11 + 1 ≤ _), (by decide : 32 + 4 ≤ _)⟩)
  dsimp only [Pt.U, Pt.locs, Pt.cells, Pt.slots] at X68 l68 y68 z68 st68 hQ68
  subst l68 y68 z68
  obtain ⟨rfl, Nq68, Kq68, nE68, nC68, tb68, kb68, g_tb68, szq_tb68, nx68, nV68, nA68⟩ := hQ68
  refine WP.tr st68 ?_
  clear st68
  replace NF := Fr.app NF Nq68
  obtain ⟨h68, e68⟩ : ∃ h, T68.heap = h := ⟨_, rfl⟩
  rw [e68] at Kq68 nE68 nC68 nV68 nA68
  have ne_b20_tb68 : b20 ≠ tb68 := Nat.ne_of_lt (Nat.lt_of_lt_of_le E_b20.lt szq_tb68)
  have ne_b22_tb68 : b22 ≠ tb68 := Nat.ne_of_lt (Nat.lt_of_lt_of_le V_b22.lt szq_tb68)
  have ne_tb26_tb68 : tb26 ≠ tb68 := Nat.ne_of_lt (Nat.lt_of_lt_of_le V_tb26.lt szq_tb68)
  have ne_b28_tb68 : b28 ≠ tb68 := Nat.ne_of_lt (Nat.lt_of_lt_of_le E_b28.lt szq_tb68)
  have ne_b30_tb68 : b30 ≠ tb68 := Nat.ne_of_lt (Nat.lt_of_lt_of_le V_b30.lt szq_tb68)
  have ne_tb37_tb68 : tb37 ≠ tb68 := Nat.ne_of_lt (Nat.lt_of_lt_of_le V_tb37.lt szq_tb68)
  have ne_b39_tb68 : b39 ≠ tb68 := Nat.ne_of_lt (Nat.lt_of_lt_of_le E_b39.lt szq_tb68)
  have ne_b41_tb68 : b41 ≠ tb68 := Nat.ne_of_lt (Nat.lt_of_lt_of_le V_b41.lt szq_tb68)
  have ne_tb51_tb68 : tb51 ≠ tb68 := Nat.ne_of_lt (Nat.lt_of_lt_of_le V_tb51.lt szq_tb68)
  have ne_b53_tb68 : b53 ≠ tb68 := Nat.ne_of_lt (Nat.lt_of_lt_of_le E_b53.lt szq_tb68)
  have ne_b55_tb68 : b55 ≠ tb68 := Nat.ne_of_lt (Nat.lt_of_lt_of_le V_b55.lt szq_tb68)
  replace OLD := OLD.keep Kq68 (allS g_b53 all0)
  replace E_b20 := E_b20.keep Kq68
  replace V_b22 := V_b22.keep Kq68 (by exact ninS ne_b22_b53 (nin0))
  replace F_b20_coder := F_b20_coder.keep Kq68 (by exact ninS ne_b20_b53 (nin0))
  replace F_b20_value := F_b20_value.keep Kq68 (by exact ninS ne_b20_b53 (nin0))
  replace V_tb26 := V_tb26.keep Kq68 (by exact ninS ne_tb26_b53 (nin0))
  replace E_b28 := E_b28.keep Kq68
  replace V_b30 := V_b30.keep Kq68 (by exact ninS ne_b30_b53 (nin0))
  replace F_b28_coder := F_b28_coder.keep Kq68 (by exact ninS ne_b28_b53 (nin0))
  replace F_b28_value := F_b28_value.keep Kq68 (by exact ninS ne_b28_b53 (nin0))
  replace V_tb37 := V_tb37.keep Kq68 (by exact ninS ne_tb37_b53 (nin0))
  replace E_b39 := E_b39.keep Kq68
  replace V_b41 := V_b41.keep Kq68 (by exact ninS ne_b41_b53 (nin0))
  replace F_b39_coder := F_b39_coder.keep Kq68 (by exact ninS ne_b39_b53 (nin0))
  replace F_b39_value := F_b39_value.keep Kq68 (by exact ninS ne_b39_b53 (nin0))
  replace V_tb51 := V_tb51.keep Kq68 (by exact ninS ne_tb51_b53 (nin0))
  replace E_b53 := E_b53.keep Kq68
  clear F_b53_coder
  clear F_b53_value
  replace V_b55 := V_b55.keep Kq68 (by exact ninS (Ne.symm ne_b53_b55) (nin0))
  replace Z0 := Nat.le_trans Z0 Kq68.1
  clear E_b53
  have E_b53 := nE68
  clear nE68
  have F_b53_coder := nC68
  clear nC68
  have F_b53_value := nV68
  clear nV68
  have V_tb68 := nA68
  clear nA68 Kq68
  show WP p.tables e below _ T68 (mkF m 120 #[.val (.int p1), .val (.int p2), .val (.int p3), .val (.int p4), .val (.int c0), .val (.int c1), .val (.int c2), .val (.int c3), .val (.ref b20), .val (.ref b28), .val (.ref b39), .unset, .unset] [(.ref b53)])
  have bk70 : ∀ t, Steps p.tables e below (T68.setTop (mkF m 126 #[.val (.int p1), .val (.int p2), .val (.int p3), .val (.int p4), .val (.int c0), .val (.int c1), .val (.int c2), .val (.int c3), .val (.ref b20), .val (.ref b28), .val (.ref b39), .val (.ref b53), .unset] [(.int (36 : Int32)), (.int c0)])) t → Steps p.tables e below (T68.setTop (mkF m 120 #[.val (.int p1), .val (.int p2), .val (.int p3), .val (.int p4), .val (.int c0), .val (.int c1), .val (.int c2), .val (.int c3), .val (.ref b20), .val (.ref b28), .val (.ref b39), .unset, .unset] [(.ref b53)])) t := fun t k => by
    refine XS.astore X68.here hx rfl (hb hby at_120) rfl rfl (l' := #[.val (.int p1), .val (.int p2), .val (.int p3), .val (.int p4), .val (.int c0), .val (.int c1), .val (.int c2), .val (.int c3), .val (.ref b20), .val (.ref b28), .val (.ref b39), .val (.ref b53), .unset]) rfl ?_
    show Steps p.tables e below (T68.setTop (mkF m 122 #[.val (.int p1), .val (.int p2), .val (.int p3), .val (.int p4), .val (.int c0), .val (.int c1), .val (.int c2), .val (.int c3), .val (.ref b20), .val (.ref b28), .val (.ref b39), .val (.ref b53), .unset] [])) t
    refine XS.iload X68.here hx rfl (hb hby at_122) rfl ?_
    show Steps p.tables e below (T68.setTop (mkF m 124 #[.val (.int p1), .val (.int p2), .val (.int p3), .val (.int p4), .val (.int c0), .val (.int c1), .val (.int c2), .val (.int c3), .val (.ref b20), .val (.ref b28), .val (.ref b39), .val (.ref b53), .unset] [(.int c0)])) t
    refine XS.bipush X68.here hx rfl (hb hby at_124) ?_
    exact k
  refine WP.st bk70 ?_
  clear bk70
  by_cases hc69 : c0 = (36 : Int32)
  · skip
    have bk71 : ∀ t, Steps p.tables e below (T68.setTop (mkF m 138 #[.val (.int p1), .val (.int p2), .val (.int p3), .val (.int p4), .val (.int c0), .val (.int c1), .val (.int c2), .val (.int c3), .val (.ref b20), .val (.ref b28), .val (.ref b39), .val (.ref b53), .val (.int (1 : Int32))] [(.ref b20)])) t → Steps p.tables e below (T68.setTop (mkF m 126 #[.val (.int p1), .val (.int p2), .val (.int p3), .val (.int p4), .val (.int c0), .val (.int c1), .val (.int c2), .val (.int c3), .val (.ref b20), .val (.ref b28), .val (.ref b39), .val (.ref b53), .unset] [(.int (36 : Int32)), (.int c0)])) t := fun t k => by
      refine XS.icmpNo X68.here hx rfl (hb hby at_126) rfl (teq hc69).2 ?_
      show Steps p.tables e below (T68.setTop (mkF m 129 #[.val (.int p1), .val (.int p2), .val (.int p3), .val (.int p4), .val (.int c0), .val (.int c1), .val (.int c2), .val (.int c3), .val (.ref b20), .val (.ref b28), .val (.ref b39), .val (.ref b53), .unset] [])) t
      refine XS.iconst X68.here hx rfl (hb hby at_129) ?_
      show Steps p.tables e below (T68.setTop (mkF m 130 #[.val (.int p1), .val (.int p2), .val (.int p3), .val (.int p4), .val (.int c0), .val (.int c1), .val (.int c2), .val (.int c3), .val (.ref b20), .val (.ref b28), .val (.ref b39), .val (.ref b53), .unset] [(.int (1 : Int32))])) t
      refine XS.goto X68.here hx rfl (pc0 := 130) (pc' := 134) rfl (hb hby at_130) (by decide) (by decide) ?_
      show Steps p.tables e below (T68.setTop (mkF m 134 #[.val (.int p1), .val (.int p2), .val (.int p3), .val (.int p4), .val (.int c0), .val (.int c1), .val (.int c2), .val (.int c3), .val (.ref b20), .val (.ref b28), .val (.ref b39), .val (.ref b53), .unset] [(.int (1 : Int32))])) t
      refine XS.istore X68.here hx rfl (hb hby at_134) rfl (l' := #[.val (.int p1), .val (.int p2), .val (.int p3), .val (.int p4), .val (.int c0), .val (.int c1), .val (.int c2), .val (.int c3), .val (.ref b20), .val (.ref b28), .val (.ref b39), .val (.ref b53), .val (.int (1 : Int32))]) rfl ?_
      show Steps p.tables e below (T68.setTop (mkF m 136 #[.val (.int p1), .val (.int p2), .val (.int p3), .val (.int p4), .val (.int c0), .val (.int c1), .val (.int c2), .val (.int c3), .val (.ref b20), .val (.ref b28), .val (.ref b39), .val (.ref b53), .val (.int (1 : Int32))] [])) t
      refine XS.aload X68.here hx rfl (hb hby at_136) rfl rfl ?_
      exact k
    refine WP.st bk71 ?_
    clear bk71
    obtain ⟨_, _, ⟨T72, L72, k72, n72⟩, -, X72, ⟨Lc72, hQ72, l72, y72, z72⟩, st72⟩ := Jvm.LawKit.callS X68 hx (y := (⟨"com/example/otayori/otayori/broker/Topics", "isDollarTopic", "(Ljava/lang/String;)Z"⟩ : MethodName)) hown (mvT hZ (hw _ (List.mem_of_getElem? (i := 34) rfl))) (mvT hZ (hw _ (List.mem_of_getElem? (i := 35) rfl))) (mvT hZ (hw _ (List.mem_of_getElem? (i := 36) rfl))) (mvT hZ (hw _ (List.mem_of_getElem? (i := 37) rfl))) (by decide) (backOf (W := 0) (rm8 l Z a0 hw [] b20 tb26 kb26 (1 : Int32) ([(nar .char c0)] : List Int32) gC gF h68 n0 Z0 E_b20 F_b20_value F_b20_coder V_tb26 ((own_hp (by intro c hc; simp only [List.mem_cons, List.not_mem_nil, or_false] at hc; subst hc; exact own_byte_nar hb0)) : ∀ c ∈ ([(nar .char c0)] : List Int32), ¬ c < 0 ∧ ¬ (255 : Int32) < c) (rfl : (1 : Int32) = Int32.ofNat ([(nar .char c0)] : List Int32).length) (Nat.zero_lt_succ _ : 0 < ([(nar .char c0)] : List Int32).length) (Nat.le_of_ble_eq_true rfl : ([(nar .char c0)] : List Int32).length ≤ 4000) OLD (O2 : Sta Z Z.heap "java/lang/String" "COMPACT_STRINGS" "Z" (.int gC)) (hz : ¬ gC = (0 : Int32)) (O4 : Sta Z Z.heap "jdk/internal/util/Preconditions" "SIOOBE_FORMATTER" "Ljava/util/function/BiFunction;" gF) (rf : gF.isRef = true)) hZ (hw _ (List.mem_of_getElem? (i := 37) rfl)) (hw _ (List.mem_of_getElem? (i := 36) rfl)) (by decide) (by decide)) (g := (mkF m 138 #[.val (.int p1), .val (.int p2), .val (.int p3), .val (.int p4), .val (.int c0), .val (.int c1), .val (.int c2), .val (.int c3), .val (.ref b20), .val (.ref b28), .val (.ref b39), .val (.ref b53), .val (.int (1 : Int32))] [(.ref b20)])) rfl (by rw [hml]; rfl) (argsL := [(.ref b20)]) (rest := []) (lenOf pd_2 rfl) rfl (by show 2 * 0 + _ ≤ _; exact Nat.le_of_eq rfl) (hb hby at_138) (fun _ _ => ⟨rfl, e68, (by decide : 12 + 0 ≤ _), (by decide : 36 + 0 ≤ _)⟩)
    dsimp only [Pt.U, Pt.locs, Pt.cells, Pt.slots] at X72 l72 y72 z72 st72 hQ72
    subst l72 y72 z72
    obtain ⟨rfl, Nq72, Kq72⟩ := hQ72
    replace NF := Fr.app NF Nq72
    clear Nq72
    refine WP.st st72 ?_
    clear st72
    replace Kq72 := Kq72.trans (rfl : h68 = h68)
    show WP p.tables e below _ T72 (mkF m 141 #[.val (.int p1), .val (.int p2), .val (.int p3), .val (.int p4), .val (.int c0), .val (.int c1), .val (.int c2), .val (.int c3), .val (.ref b20), .val (.ref b28), .val (.ref b39), .val (.ref b53), .val (.int (1 : Int32))] [(.int (if ([(nar .char c0)] : List Int32).getD 0 0 = 36 then (1 : Int32) else 0))])
    rw [show (if ([(nar .char c0)] : List Int32).getD 0 0 = 36 then (1 : Int32) else 0) = (1 : Int32) from by show (if nar .char c0 = 36 then (1 : Int32) else 0) = _; rw [hb0.2.2]; simp [hc69]]
    show WP p.tables e below _ T72 (mkF m 141 #[.val (.int p1), .val (.int p2), .val (.int p3), .val (.int p4), .val (.int c0), .val (.int c1), .val (.int c2), .val (.int c3), .val (.ref b20), .val (.ref b28), .val (.ref b39), .val (.ref b53), .val (.int (1 : Int32))] [(.int (1 : Int32))])
    have bk73 : ∀ t, Steps p.tables e below (T72.setTop (mkF m 148 #[.val (.int p1), .val (.int p2), .val (.int p3), .val (.int p4), .val (.int c0), .val (.int c1), .val (.int c2), .val (.int c3), .val (.ref b20), .val (.ref b28), .val (.ref b39), .val (.ref b53), .val (.int (1 : Int32))] [(.ref b28)])) t → Steps p.tables e below (T72.setTop (mkF m 141 #[.val (.int p1), .val (.int p2), .val (.int p3), .val (.int p4), .val (.int c0), .val (.int c1), .val (.int c2), .val (.int c3), .val (.ref b20), .val (.ref b28), .val (.ref b39), .val (.ref b53), .val (.int (1 : Int32))] [(.int (1 : Int32))])) t := fun t k => by
      refine XS.iload X72.here hx rfl (hb hby at_141) rfl ?_
      show Steps p.tables e below (T72.setTop (mkF m 143 #[.val (.int p1), .val (.int p2), .val (.int p3), .val (.int p4), .val (.int c0), .val (.int c1), .val (.int c2), .val (.int c3), .val (.ref b20), .val (.ref b28), .val (.ref b39), .val (.ref b53), .val (.int (1 : Int32))] [(.int (1 : Int32)), (.int (1 : Int32))])) t
      refine XS.icmpNo X72.here hx rfl (hb hby at_143) rfl (teq (by decide : (1 : Int32) = (1 : Int32))).2 ?_
      show Steps p.tables e below (T72.setTop (mkF m 146 #[.val (.int p1), .val (.int p2), .val (.int p3), .val (.int p4), .val (.int c0), .val (.int c1), .val (.int c2), .val (.int c3), .val (.ref b20), .val (.ref b28), .val (.ref b39), .val (.ref b53), .val (.int (1 : Int32))] [])) t
      refine XS.aload X72.here hx rfl (hb hby at_146) rfl rfl ?_
      exact k
    refine WP.st bk73 ?_
    clear bk73
    obtain ⟨_, _, ⟨T74, L74, k74, n74⟩, -, X74, ⟨Lc74, hQ74, l74, y74, z74⟩, st74⟩ := Jvm.LawKit.callS X72 hx (y := (⟨"com/example/otayori/otayori/broker/Topics", "isDollarTopic", "(Ljava/lang/String;)Z"⟩ : MethodName)) hown (mvT hZ (hw _ (List.mem_of_getElem? (i := 34) rfl))) (mvT hZ (hw _ (List.mem_of_getElem? (i := 35) rfl))) (mvT hZ (hw _ (List.mem_of_getElem? (i := 36) rfl))) (mvT hZ (hw _ (List.mem_of_getElem? (i := 37) rfl))) (by decide) (backOf (W := 0) (rm8 l Z a0 hw [] b28 tb37 kb37 (2 : Int32) ([(nar .char c0), (nar .char c1)] : List Int32) gC gF h68 n0 Z0 E_b28 F_b28_value F_b28_coder V_tb37 ((own_hp (by intro c hc; simp only [List.mem_cons, List.not_mem_nil, or_false] at hc; rcases hc with rfl | rfl <;> first | exact own_byte_nar hb0 | exact own_byte_nar hb1)) : ∀ c ∈ ([(nar .char c0), (nar .char c1)] : List Int32), ¬ c < 0 ∧ ¬ (255 : Int32) < c) (rfl : (2 : Int32) = Int32.ofNat ([(nar .char c0), (nar .char c1)] : List Int32).length) (Nat.zero_lt_succ _ : 0 < ([(nar .char c0), (nar .char c1)] : List Int32).length) (Nat.le_of_ble_eq_true rfl : ([(nar .char c0), (nar .char c1)] : List Int32).length ≤ 4000) OLD (O2 : Sta Z Z.heap "java/lang/String" "COMPACT_STRINGS" "Z" (.int gC)) (hz : ¬ gC = (0 : Int32)) (O4 : Sta Z Z.heap "jdk/internal/util/Preconditions" "SIOOBE_FORMATTER" "Ljava/util/function/BiFunction;" gF) (rf : gF.isRef = true)) hZ (hw _ (List.mem_of_getElem? (i := 37) rfl)) (hw _ (List.mem_of_getElem? (i := 36) rfl)) (by decide) (by decide)) (g := (mkF m 148 #[.val (.int p1), .val (.int p2), .val (.int p3), .val (.int p4), .val (.int c0), .val (.int c1), .val (.int c2), .val (.int c3), .val (.ref b20), .val (.ref b28), .val (.ref b39), .val (.ref b53), .val (.int (1 : Int32))] [(.ref b28)])) rfl (by rw [hml]; rfl) (argsL := [(.ref b28)]) (rest := []) (lenOf pd_2 rfl) rfl (by show 2 * 0 + _ ≤ _; exact Nat.le_of_eq rfl) (hb hby at_148) (fun _ _ => ⟨rfl, Kq72, (by decide : 12 + 0 ≤ _), (by decide : 36 + 0 ≤ _)⟩)
    dsimp only [Pt.U, Pt.locs, Pt.cells, Pt.slots] at X74 l74 y74 z74 st74 hQ74
    subst l74 y74 z74
    obtain ⟨rfl, Nq74, Kq74⟩ := hQ74
    replace NF := Fr.app NF Nq74
    clear Nq74
    refine WP.st st74 ?_
    clear st74
    replace Kq74 := Kq74.trans (rfl : h68 = h68)
    show WP p.tables e below _ T74 (mkF m 151 #[.val (.int p1), .val (.int p2), .val (.int p3), .val (.int p4), .val (.int c0), .val (.int c1), .val (.int c2), .val (.int c3), .val (.ref b20), .val (.ref b28), .val (.ref b39), .val (.ref b53), .val (.int (1 : Int32))] [(.int (if ([(nar .char c0), (nar .char c1)] : List Int32).getD 0 0 = 36 then (1 : Int32) else 0))])
    rw [show (if ([(nar .char c0), (nar .char c1)] : List Int32).getD 0 0 = 36 then (1 : Int32) else 0) = (1 : Int32) from by show (if nar .char c0 = 36 then (1 : Int32) else 0) = _; rw [hb0.2.2]; simp [hc69]]
    show WP p.tables e below _ T74 (mkF m 151 #[.val (.int p1), .val (.int p2), .val (.int p3), .val (.int p4), .val (.int c0), .val (.int c1), .val (.int c2), .val (.int c3), .val (.ref b20), .val (.ref b28), .val (.ref b39), .val (.ref b53), .val (.int (1 : Int32))] [(.int (1 : Int32))])
    have bk75 : ∀ t, Steps p.tables e below (T74.setTop (mkF m 158 #[.val (.int p1), .val (.int p2), .val (.int p3), .val (.int p4), .val (.int c0), .val (.int c1), .val (.int c2), .val (.int c3), .val (.ref b20), .val (.ref b28), .val (.ref b39), .val (.ref b53), .val (.int (1 : Int32))] [(.ref b39)])) t → Steps p.tables e below (T74.setTop (mkF m 151 #[.val (.int p1), .val (.int p2), .val (.int p3), .val (.int p4), .val (.int c0), .val (.int c1), .val (.int c2), .val (.int c3), .val (.ref b20), .val (.ref b28), .val (.ref b39), .val (.ref b53), .val (.int (1 : Int32))] [(.int (1 : Int32))])) t := fun t k => by
      refine XS.iload X74.here hx rfl (hb hby at_151) rfl ?_
      show Steps p.tables e below (T74.setTop (mkF m 153 #[.val (.int p1), .val (.int p2), .val (.int p3), .val (.int p4), .val (.int c0), .val (.int c1), .val (.int c2), .val (.int c3), .val (.ref b20), .val (.ref b28), .val (.ref b39), .val (.ref b53), .val (.int (1 : Int32))] [(.int (1 : Int32)), (.int (1 : Int32))])) t
      refine XS.icmpNo X74.here hx rfl (hb hby at_153) rfl (teq (by decide : (1 : Int32) = (1 : Int32))).2 ?_
      show Steps p.tables e below (T74.setTop (mkF m 156 #[.val (.int p1), .val (.int p2), .val (.int p3), .val (.int p4), .val (.int c0), .val (.int c1), .val (.int c2), .val (.int c3), .val (.ref b20), .val (.ref b28), .val (.ref b39), .val (.ref b53), .val (.int (1 : Int32))] [])) t
      refine XS.aload X74.here hx rfl (hb hby at_156) rfl rfl ?_
      exact k
    refine WP.st bk75 ?_
    clear bk75
    obtain ⟨_, _, ⟨T76, L76, k76, n76⟩, -, X76, ⟨Lc76, hQ76, l76, y76, z76⟩, st76⟩ := Jvm.LawKit.callS X74 hx (y := (⟨"com/example/otayori/otayori/broker/Topics", "isDollarTopic", "(Ljava/lang/String;)Z"⟩ : MethodName)) hown (mvT hZ (hw _ (List.mem_of_getElem? (i := 34) rfl))) (mvT hZ (hw _ (List.mem_of_getElem? (i := 35) rfl))) (mvT hZ (hw _ (List.mem_of_getElem? (i := 36) rfl))) (mvT hZ (hw _ (List.mem_of_getElem? (i := 37) rfl))) (by decide) (backOf (W := 0) (rm8 l Z a0 hw [] b39 tb51 kb51 (3 : Int32) ([(nar .char c0), (nar .char c1), (nar .char c2)] : List Int32) gC gF h68 n0 Z0 E_b39 F_b39_value F_b39_coder V_tb51 ((own_hp (by intro c hc; simp only [List.mem_cons, List.not_mem_nil, or_false] at hc; rcases hc with rfl | rfl | rfl <;> first | exact own_byte_nar hb0 | exact own_byte_nar hb1 | exact own_byte_nar hb2)) : ∀ c ∈ ([(nar .char c0), (nar .char c1), (nar .char c2)] : List Int32), ¬ c < 0 ∧ ¬ (255 : Int32) < c) (rfl : (3 : Int32) = Int32.ofNat ([(nar .char c0), (nar .char c1), (nar .char c2)] : List Int32).length) (Nat.zero_lt_succ _ : 0 < ([(nar .char c0), (nar .char c1), (nar .char c2)] : List Int32).length) (Nat.le_of_ble_eq_true rfl : ([(nar .char c0), (nar .char c1), (nar .char c2)] : List Int32).length ≤ 4000) OLD (O2 : Sta Z Z.heap "java/lang/String" "COMPACT_STRINGS" "Z" (.int gC)) (hz : ¬ gC = (0 : Int32)) (O4 : Sta Z Z.heap "jdk/internal/util/Preconditions" "SIOOBE_FORMATTER" "Ljava/util/function/BiFunction;" gF) (rf : gF.isRef = true)) hZ (hw _ (List.mem_of_getElem? (i := 37) rfl)) (hw _ (List.mem_of_getElem? (i := 36) rfl)) (by decide) (by decide)) (g := (mkF m 158 #[.val (.int p1), .val (.int p2), .val (.int p3), .val (.int p4), .val (.int c0), .val (.int c1), .val (.int c2), .val (.int c3), .val (.ref b20), .val (.ref b28), .val (.ref b39), .val (.ref b53), .val (.int (1 : Int32))] [(.ref b39)])) rfl (by rw [hml]; rfl) (argsL := [(.ref b39)]) (rest := []) (lenOf pd_2 rfl) rfl (by show 2 * 0 + _ ≤ _; exact Nat.le_of_eq rfl) (hb hby at_158) (fun _ _ => ⟨rfl, Kq74, (by decide : 12 + 0 ≤ _), (by decide : 36 + 0 ≤ _)⟩)
    dsimp only [Pt.U, Pt.locs, Pt.cells, Pt.slots] at X76 l76 y76 z76 st76 hQ76
    subst l76 y76 z76
    obtain ⟨rfl, Nq76, Kq76⟩ := hQ76
    replace NF := Fr.app NF Nq76
    clear Nq76
    refine WP.st st76 ?_
    clear st76
    replace Kq76 := Kq76.trans (rfl : h68 = h68)
    show WP p.tables e below _ T76 (mkF m 161 #[.val (.int p1), .val (.int p2), .val (.int p3), .val (.int p4), .val (.int c0), .val (.int c1), .val (.int c2), .val (.int c3), .val (.ref b20), .val (.ref b28), .val (.ref b39), .val (.ref b53), .val (.int (1 : Int32))] [(.int (if ([(nar .char c0), (nar .char c1), (nar .char c2)] : List Int32).getD 0 0 = 36 then (1 : Int32) else 0))])
    rw [show (if ([(nar .char c0), (nar .char c1), (nar .char c2)] : List Int32).getD 0 0 = 36 then (1 : Int32) else 0) = (1 : Int32) from by show (if nar .char c0 = 36 then (1 : Int32) else 0) = _; rw [hb0.2.2]; simp [hc69]]
    show WP p.tables e below _ T76 (mkF m 161 #[.val (.int p1), .val (.int p2), .val (.int p3), .val (.int p4), .val (.int c0), .val (.int c1), .val (.int c2), .val (.int c3), .val (.ref b20), .val (.ref b28), .val (.ref b39), .val (.ref b53), .val (.int (1 : Int32))] [(.int (1 : Int32))])
    have bk77 : ∀ t, Steps p.tables e below (T76.setTop (mkF m 168 #[.val (.int p1), .val (.int p2), .val (.int p3), .val (.int p4), .val (.int c0), .val (.int c1), .val (.int c2), .val (.int c3), .val (.ref b20), .val (.ref b28), .val (.ref b39), .val (.ref b53), .val (.int (1 : Int32))] [(.ref b53)])) t → Steps p.tables e below (T76.setTop (mkF m 161 #[.val (.int p1), .val (.int p2), .val (.int p3), .val (.int p4), .val (.int c0), .val (.int c1), .val (.int c2), .val (.int c3), .val (.ref b20), .val (.ref b28), .val (.ref b39), .val (.ref b53), .val (.int (1 : Int32))] [(.int (1 : Int32))])) t := fun t k => by
      refine XS.iload X76.here hx rfl (hb hby at_161) rfl ?_
      show Steps p.tables e below (T76.setTop (mkF m 163 #[.val (.int p1), .val (.int p2), .val (.int p3), .val (.int p4), .val (.int c0), .val (.int c1), .val (.int c2), .val (.int c3), .val (.ref b20), .val (.ref b28), .val (.ref b39), .val (.ref b53), .val (.int (1 : Int32))] [(.int (1 : Int32)), (.int (1 : Int32))])) t
      refine XS.icmpNo X76.here hx rfl (hb hby at_163) rfl (teq (by decide : (1 : Int32) = (1 : Int32))).2 ?_
      show Steps p.tables e below (T76.setTop (mkF m 166 #[.val (.int p1), .val (.int p2), .val (.int p3), .val (.int p4), .val (.int c0), .val (.int c1), .val (.int c2), .val (.int c3), .val (.ref b20), .val (.ref b28), .val (.ref b39), .val (.ref b53), .val (.int (1 : Int32))] [])) t
      refine XS.aload X76.here hx rfl (hb hby at_166) rfl rfl ?_
      exact k
    refine WP.st bk77 ?_
    clear bk77
    obtain ⟨_, _, ⟨T78, L78, k78, n78⟩, -, X78, ⟨Lc78, hQ78, l78, y78, z78⟩, st78⟩ := Jvm.LawKit.callS X76 hx (y := (⟨"com/example/otayori/otayori/broker/Topics", "isDollarTopic", "(Ljava/lang/String;)Z"⟩ : MethodName)) hown (mvT hZ (hw _ (List.mem_of_getElem? (i := 34) rfl))) (mvT hZ (hw _ (List.mem_of_getElem? (i := 35) rfl))) (mvT hZ (hw _ (List.mem_of_getElem? (i := 36) rfl))) (mvT hZ (hw _ (List.mem_of_getElem? (i := 37) rfl))) (by decide) (backOf (W := 0) (rm8 l Z a0 hw [] b53 tb68 kb68 (4 : Int32) ([(nar .char c0), (nar .char c1), (nar .char c2), (nar .char c3)] : List Int32) gC gF h68 n0 Z0 E_b53 F_b53_value F_b53_coder V_tb68 ((own_hp (by intro c hc; simp only [List.mem_cons, List.not_mem_nil, or_false] at hc; rcases hc with rfl | rfl | rfl | rfl <;> first | exact own_byte_nar hb0 | exact own_byte_nar hb1 | exact own_byte_nar hb2 | exact own_byte_nar hb3)) : ∀ c ∈ ([(nar .char c0), (nar .char c1), (nar .char c2), (nar .char c3)] : List Int32), ¬ c < 0 ∧ ¬ (255 : Int32) < c) (rfl : (4 : Int32) = Int32.ofNat ([(nar .char c0), (nar .char c1), (nar .char c2), (nar .char c3)] : List Int32).length) (Nat.zero_lt_succ _ : 0 < ([(nar .char c0), (nar .char c1), (nar .char c2), (nar .char c3)] : List Int32).length) (Nat.le_of_ble_eq_true rfl : ([(nar .char c0), (nar .char c1), (nar .char c2), (nar .char c3)] : List Int32).length ≤ 4000) OLD (O2 : Sta Z Z.heap "java/lang/String" "COMPACT_STRINGS" "Z" (.int gC)) (hz : ¬ gC = (0 : Int32)) (O4 : Sta Z Z.heap "jdk/internal/util/Preconditions" "SIOOBE_FORMATTER" "Ljava/util/function/BiFunction;" gF) (rf : gF.isRef = true)) hZ (hw _ (List.mem_of_getElem? (i := 37) rfl)) (hw _ (List.mem_of_getElem? (i := 36) rfl)) (by decide) (by decide)) (g := (mkF m 168 #[.val (.int p1), .val (.int p2), .val (.int p3), .val (.int p4), .val (.int c0), .val (.int c1), .val (.int c2), .val (.int c3), .val (.ref b20), .val (.ref b28), .val (.ref b39), .val (.ref b53), .val (.int (1 : Int32))] [(.ref b53)])) rfl (by rw [hml]; rfl) (argsL := [(.ref b53)]) (rest := []) (lenOf pd_2 rfl) rfl (by show 2 * 0 + _ ≤ _; exact Nat.le_of_eq rfl) (hb hby at_168) (fun _ _ => ⟨rfl, Kq76, (by decide : 12 + 0 ≤ _), (by decide : 36 + 0 ≤ _)⟩)
    dsimp only [Pt.U, Pt.locs, Pt.cells, Pt.slots] at X78 l78 y78 z78 st78 hQ78
    subst l78 y78 z78
    obtain ⟨rfl, Nq78, Kq78⟩ := hQ78
    replace NF := Fr.app NF Nq78
    clear Nq78
    refine WP.st st78 ?_
    clear st78
    replace Kq78 := Kq78.trans (rfl : h68 = h68)
    show WP p.tables e below _ T78 (mkF m 171 #[.val (.int p1), .val (.int p2), .val (.int p3), .val (.int p4), .val (.int c0), .val (.int c1), .val (.int c2), .val (.int c3), .val (.ref b20), .val (.ref b28), .val (.ref b39), .val (.ref b53), .val (.int (1 : Int32))] [(.int (if ([(nar .char c0), (nar .char c1), (nar .char c2), (nar .char c3)] : List Int32).getD 0 0 = 36 then (1 : Int32) else 0))])
    rw [show (if ([(nar .char c0), (nar .char c1), (nar .char c2), (nar .char c3)] : List Int32).getD 0 0 = 36 then (1 : Int32) else 0) = (1 : Int32) from by show (if nar .char c0 = 36 then (1 : Int32) else 0) = _; rw [hb0.2.2]; simp [hc69]]
    show WP p.tables e below _ T78 (mkF m 171 #[.val (.int p1), .val (.int p2), .val (.int p3), .val (.int p4), .val (.int c0), .val (.int c1), .val (.int c2), .val (.int c3), .val (.ref b20), .val (.ref b28), .val (.ref b39), .val (.ref b53), .val (.int (1 : Int32))] [(.int (1 : Int32))])
    have bk79 : ∀ t, Steps p.tables e below (T78.setTop (mkF m 181 #[.val (.int p1), .val (.int p2), .val (.int p3), .val (.int p4), .val (.int c0), .val (.int c1), .val (.int c2), .val (.int c3), .val (.ref b20), .val (.ref b28), .val (.ref b39), .val (.ref b53), .val (.int (1 : Int32))] [(.int (1 : Int32))])) t → Steps p.tables e below (T78.setTop (mkF m 171 #[.val (.int p1), .val (.int p2), .val (.int p3), .val (.int p4), .val (.int c0), .val (.int c1), .val (.int c2), .val (.int c3), .val (.ref b20), .val (.ref b28), .val (.ref b39), .val (.ref b53), .val (.int (1 : Int32))] [(.int (1 : Int32))])) t := fun t k => by
      refine XS.iload X78.here hx rfl (hb hby at_171) rfl ?_
      show Steps p.tables e below (T78.setTop (mkF m 173 #[.val (.int p1), .val (.int p2), .val (.int p3), .val (.int p4), .val (.int c0), .val (.int c1), .val (.int c2), .val (.int c3), .val (.ref b20), .val (.ref b28), .val (.ref b39), .val (.ref b53), .val (.int (1 : Int32))] [(.int (1 : Int32)), (.int (1 : Int32))])) t
      refine XS.icmpNo X78.here hx rfl (hb hby at_173) rfl (teq (by decide : (1 : Int32) = (1 : Int32))).2 ?_
      show Steps p.tables e below (T78.setTop (mkF m 176 #[.val (.int p1), .val (.int p2), .val (.int p3), .val (.int p4), .val (.int c0), .val (.int c1), .val (.int c2), .val (.int c3), .val (.ref b20), .val (.ref b28), .val (.ref b39), .val (.ref b53), .val (.int (1 : Int32))] [])) t
      refine XS.iconst X78.here hx rfl (hb hby at_176) ?_
      show Steps p.tables e below (T78.setTop (mkF m 177 #[.val (.int p1), .val (.int p2), .val (.int p3), .val (.int p4), .val (.int c0), .val (.int c1), .val (.int c2), .val (.int c3), .val (.ref b20), .val (.ref b28), .val (.ref b39), .val (.ref b53), .val (.int (1 : Int32))] [(.int (1 : Int32))])) t
      refine XS.goto X78.here hx rfl (pc0 := 177) (pc' := 181) rfl (hb hby at_177) (by decide) (by decide) ?_
      exact k
    refine WP.st bk79 ?_
    clear bk79
    subst hG
    obtain ⟨fs, hr, hrun, hended, hW, hsame⟩ := X78.leave (v := some (.int (1 : Int32))) (fun h => by rw [Bd.returns] at h; cases h)
    refine WP.fin ⟨_, _, ?_, hrun, hended, _, _, rfl, ?_, ⟨_, rfl⟩, hW, hsame.mono (by decide) (by decide)⟩
    · exact retN X78 hx (t := .boolean) Bd.returns (by simp) (hb hby at_181) hr
    · show Q0 Z p1 p2 p3 p4 gC gF h0 n0 _ T78.heap _
      rw [Kq78]
      exact ⟨rfl, NF⟩
  · skip
    have bk80 : ∀ t, Steps p.tables e below (T68.setTop (mkF m 138 #[.val (.int p1), .val (.int p2), .val (.int p3), .val (.int p4), .val (.int c0), .val (.int c1), .val (.int c2), .val (.int c3), .val (.ref b20), .val (.ref b28), .val (.ref b39), .val (.ref b53), .val (.int (0 : Int32))] [(.ref b20)])) t → Steps p.tables e below (T68.setTop (mkF m 126 #[.val (.int p1), .val (.int p2), .val (.int p3), .val (.int p4), .val (.int c0), .val (.int c1), .val (.int c2), .val (.int c3), .val (.ref b20), .val (.ref b28), .val (.ref b39), .val (.ref b53), .unset] [(.int (36 : Int32)), (.int c0)])) t := fun t k => by
      refine XS.icmpYes X68.here hx rfl (pc0 := 126) (pc' := 133) rfl (hb hby at_126) rfl (feq hc69).2 (by decide) (by decide) ?_
      show Steps p.tables e below (T68.setTop (mkF m 133 #[.val (.int p1), .val (.int p2), .val (.int p3), .val (.int p4), .val (.int c0), .val (.int c1), .val (.int c2), .val (.int c3), .val (.ref b20), .val (.ref b28), .val (.ref b39), .val (.ref b53), .unset] [])) t
      refine XS.iconst X68.here hx rfl (hb hby at_133) ?_
      show Steps p.tables e below (T68.setTop (mkF m 134 #[.val (.int p1), .val (.int p2), .val (.int p3), .val (.int p4), .val (.int c0), .val (.int c1), .val (.int c2), .val (.int c3), .val (.ref b20), .val (.ref b28), .val (.ref b39), .val (.ref b53), .unset] [(.int (0 : Int32))])) t
      refine XS.istore X68.here hx rfl (hb hby at_134) rfl (l' := #[.val (.int p1), .val (.int p2), .val (.int p3), .val (.int p4), .val (.int c0), .val (.int c1), .val (.int c2), .val (.int c3), .val (.ref b20), .val (.ref b28), .val (.ref b39), .val (.ref b53), .val (.int (0 : Int32))]) rfl ?_
      show Steps p.tables e below (T68.setTop (mkF m 136 #[.val (.int p1), .val (.int p2), .val (.int p3), .val (.int p4), .val (.int c0), .val (.int c1), .val (.int c2), .val (.int c3), .val (.ref b20), .val (.ref b28), .val (.ref b39), .val (.ref b53), .val (.int (0 : Int32))] [])) t
      refine XS.aload X68.here hx rfl (hb hby at_136) rfl rfl ?_
      exact k
    refine WP.st bk80 ?_
    clear bk80
    obtain ⟨_, _, ⟨T81, L81, k81, n81⟩, -, X81, ⟨Lc81, hQ81, l81, y81, z81⟩, st81⟩ := Jvm.LawKit.callS X68 hx (y := (⟨"com/example/otayori/otayori/broker/Topics", "isDollarTopic", "(Ljava/lang/String;)Z"⟩ : MethodName)) hown (mvT hZ (hw _ (List.mem_of_getElem? (i := 34) rfl))) (mvT hZ (hw _ (List.mem_of_getElem? (i := 35) rfl))) (mvT hZ (hw _ (List.mem_of_getElem? (i := 36) rfl))) (mvT hZ (hw _ (List.mem_of_getElem? (i := 37) rfl))) (by decide) (backOf (W := 0) (rm8 l Z a0 hw [] b20 tb26 kb26 (1 : Int32) ([(nar .char c0)] : List Int32) gC gF h68 n0 Z0 E_b20 F_b20_value F_b20_coder V_tb26 ((own_hp (by intro c hc; simp only [List.mem_cons, List.not_mem_nil, or_false] at hc; subst hc; exact own_byte_nar hb0)) : ∀ c ∈ ([(nar .char c0)] : List Int32), ¬ c < 0 ∧ ¬ (255 : Int32) < c) (rfl : (1 : Int32) = Int32.ofNat ([(nar .char c0)] : List Int32).length) (Nat.zero_lt_succ _ : 0 < ([(nar .char c0)] : List Int32).length) (Nat.le_of_ble_eq_true rfl : ([(nar .char c0)] : List Int32).length ≤ 4000) OLD (O2 : Sta Z Z.heap "java/lang/String" "COMPACT_STRINGS" "Z" (.int gC)) (hz : ¬ gC = (0 : Int32)) (O4 : Sta Z Z.heap "jdk/internal/util/Preconditions" "SIOOBE_FORMATTER" "Ljava/util/function/BiFunction;" gF) (rf : gF.isRef = true)) hZ (hw _ (List.mem_of_getElem? (i := 37) rfl)) (hw _ (List.mem_of_getElem? (i := 36) rfl)) (by decide) (by decide)) (g := (mkF m 138 #[.val (.int p1), .val (.int p2), .val (.int p3), .val (.int p4), .val (.int c0), .val (.int c1), .val (.int c2), .val (.int c3), .val (.ref b20), .val (.ref b28), .val (.ref b39), .val (.ref b53), .val (.int (0 : Int32))] [(.ref b20)])) rfl (by rw [hml]; rfl) (argsL := [(.ref b20)]) (rest := []) (lenOf pd_2 rfl) rfl (by show 2 * 0 + _ ≤ _; exact Nat.le_of_eq rfl) (hb hby at_138) (fun _ _ => ⟨rfl, e68, (by decide : 12 + 0 ≤ _), (by decide : 36 + 0 ≤ _)⟩)
    dsimp only [Pt.U, Pt.locs, Pt.cells, Pt.slots] at X81 l81 y81 z81 st81 hQ81
    subst l81 y81 z81
    obtain ⟨rfl, Nq81, Kq81⟩ := hQ81
    replace NF := Fr.app NF Nq81
    clear Nq81
    refine WP.st st81 ?_
    clear st81
    replace Kq81 := Kq81.trans (rfl : h68 = h68)
    show WP p.tables e below _ T81 (mkF m 141 #[.val (.int p1), .val (.int p2), .val (.int p3), .val (.int p4), .val (.int c0), .val (.int c1), .val (.int c2), .val (.int c3), .val (.ref b20), .val (.ref b28), .val (.ref b39), .val (.ref b53), .val (.int (0 : Int32))] [(.int (if ([(nar .char c0)] : List Int32).getD 0 0 = 36 then (1 : Int32) else 0))])
    rw [show (if ([(nar .char c0)] : List Int32).getD 0 0 = 36 then (1 : Int32) else 0) = (0 : Int32) from by show (if nar .char c0 = 36 then (1 : Int32) else 0) = _; rw [hb0.2.2]; simp [hc69]]
    show WP p.tables e below _ T81 (mkF m 141 #[.val (.int p1), .val (.int p2), .val (.int p3), .val (.int p4), .val (.int c0), .val (.int c1), .val (.int c2), .val (.int c3), .val (.ref b20), .val (.ref b28), .val (.ref b39), .val (.ref b53), .val (.int (0 : Int32))] [(.int (0 : Int32))])
    have bk82 : ∀ t, Steps p.tables e below (T81.setTop (mkF m 148 #[.val (.int p1), .val (.int p2), .val (.int p3), .val (.int p4), .val (.int c0), .val (.int c1), .val (.int c2), .val (.int c3), .val (.ref b20), .val (.ref b28), .val (.ref b39), .val (.ref b53), .val (.int (0 : Int32))] [(.ref b28)])) t → Steps p.tables e below (T81.setTop (mkF m 141 #[.val (.int p1), .val (.int p2), .val (.int p3), .val (.int p4), .val (.int c0), .val (.int c1), .val (.int c2), .val (.int c3), .val (.ref b20), .val (.ref b28), .val (.ref b39), .val (.ref b53), .val (.int (0 : Int32))] [(.int (0 : Int32))])) t := fun t k => by
      refine XS.iload X81.here hx rfl (hb hby at_141) rfl ?_
      show Steps p.tables e below (T81.setTop (mkF m 143 #[.val (.int p1), .val (.int p2), .val (.int p3), .val (.int p4), .val (.int c0), .val (.int c1), .val (.int c2), .val (.int c3), .val (.ref b20), .val (.ref b28), .val (.ref b39), .val (.ref b53), .val (.int (0 : Int32))] [(.int (0 : Int32)), (.int (0 : Int32))])) t
      refine XS.icmpNo X81.here hx rfl (hb hby at_143) rfl (teq (by decide : (0 : Int32) = (0 : Int32))).2 ?_
      show Steps p.tables e below (T81.setTop (mkF m 146 #[.val (.int p1), .val (.int p2), .val (.int p3), .val (.int p4), .val (.int c0), .val (.int c1), .val (.int c2), .val (.int c3), .val (.ref b20), .val (.ref b28), .val (.ref b39), .val (.ref b53), .val (.int (0 : Int32))] [])) t
      refine XS.aload X81.here hx rfl (hb hby at_146) rfl rfl ?_
      exact k
    refine WP.st bk82 ?_
    clear bk82
    obtain ⟨_, _, ⟨T83, L83, k83, n83⟩, -, X83, ⟨Lc83, hQ83, l83, y83, z83⟩, st83⟩ := Jvm.LawKit.callS X81 hx (y := (⟨"com/example/otayori/otayori/broker/Topics", "isDollarTopic", "(Ljava/lang/String;)Z"⟩ : MethodName)) hown (mvT hZ (hw _ (List.mem_of_getElem? (i := 34) rfl))) (mvT hZ (hw _ (List.mem_of_getElem? (i := 35) rfl))) (mvT hZ (hw _ (List.mem_of_getElem? (i := 36) rfl))) (mvT hZ (hw _ (List.mem_of_getElem? (i := 37) rfl))) (by decide) (backOf (W := 0) (rm8 l Z a0 hw [] b28 tb37 kb37 (2 : Int32) ([(nar .char c0), (nar .char c1)] : List Int32) gC gF h68 n0 Z0 E_b28 F_b28_value F_b28_coder V_tb37 ((own_hp (by intro c hc; simp only [List.mem_cons, List.not_mem_nil, or_false] at hc; rcases hc with rfl | rfl <;> first | exact own_byte_nar hb0 | exact own_byte_nar hb1)) : ∀ c ∈ ([(nar .char c0), (nar .char c1)] : List Int32), ¬ c < 0 ∧ ¬ (255 : Int32) < c) (rfl : (2 : Int32) = Int32.ofNat ([(nar .char c0), (nar .char c1)] : List Int32).length) (Nat.zero_lt_succ _ : 0 < ([(nar .char c0), (nar .char c1)] : List Int32).length) (Nat.le_of_ble_eq_true rfl : ([(nar .char c0), (nar .char c1)] : List Int32).length ≤ 4000) OLD (O2 : Sta Z Z.heap "java/lang/String" "COMPACT_STRINGS" "Z" (.int gC)) (hz : ¬ gC = (0 : Int32)) (O4 : Sta Z Z.heap "jdk/internal/util/Preconditions" "SIOOBE_FORMATTER" "Ljava/util/function/BiFunction;" gF) (rf : gF.isRef = true)) hZ (hw _ (List.mem_of_getElem? (i := 37) rfl)) (hw _ (List.mem_of_getElem? (i := 36) rfl)) (by decide) (by decide)) (g := (mkF m 148 #[.val (.int p1), .val (.int p2), .val (.int p3), .val (.int p4), .val (.int c0), .val (.int c1), .val (.int c2), .val (.int c3), .val (.ref b20), .val (.ref b28), .val (.ref b39), .val (.ref b53), .val (.int (0 : Int32))] [(.ref b28)])) rfl (by rw [hml]; rfl) (argsL := [(.ref b28)]) (rest := []) (lenOf pd_2 rfl) rfl (by show 2 * 0 + _ ≤ _; exact Nat.le_of_eq rfl) (hb hby at_148) (fun _ _ => ⟨rfl, Kq81, (by decide : 12 + 0 ≤ _), (by decide : 36 + 0 ≤ _)⟩)
    dsimp only [Pt.U, Pt.locs, Pt.cells, Pt.slots] at X83 l83 y83 z83 st83 hQ83
    subst l83 y83 z83
    obtain ⟨rfl, Nq83, Kq83⟩ := hQ83
    replace NF := Fr.app NF Nq83
    clear Nq83
    refine WP.st st83 ?_
    clear st83
    replace Kq83 := Kq83.trans (rfl : h68 = h68)
    show WP p.tables e below _ T83 (mkF m 151 #[.val (.int p1), .val (.int p2), .val (.int p3), .val (.int p4), .val (.int c0), .val (.int c1), .val (.int c2), .val (.int c3), .val (.ref b20), .val (.ref b28), .val (.ref b39), .val (.ref b53), .val (.int (0 : Int32))] [(.int (if ([(nar .char c0), (nar .char c1)] : List Int32).getD 0 0 = 36 then (1 : Int32) else 0))])
    rw [show (if ([(nar .char c0), (nar .char c1)] : List Int32).getD 0 0 = 36 then (1 : Int32) else 0) = (0 : Int32) from by show (if nar .char c0 = 36 then (1 : Int32) else 0) = _; rw [hb0.2.2]; simp [hc69]]
    show WP p.tables e below _ T83 (mkF m 151 #[.val (.int p1), .val (.int p2), .val (.int p3), .val (.int p4), .val (.int c0), .val (.int c1), .val (.int c2), .val (.int c3), .val (.ref b20), .val (.ref b28), .val (.ref b39), .val (.ref b53), .val (.int (0 : Int32))] [(.int (0 : Int32))])
    have bk84 : ∀ t, Steps p.tables e below (T83.setTop (mkF m 158 #[.val (.int p1), .val (.int p2), .val (.int p3), .val (.int p4), .val (.int c0), .val (.int c1), .val (.int c2), .val (.int c3), .val (.ref b20), .val (.ref b28), .val (.ref b39), .val (.ref b53), .val (.int (0 : Int32))] [(.ref b39)])) t → Steps p.tables e below (T83.setTop (mkF m 151 #[.val (.int p1), .val (.int p2), .val (.int p3), .val (.int p4), .val (.int c0), .val (.int c1), .val (.int c2), .val (.int c3), .val (.ref b20), .val (.ref b28), .val (.ref b39), .val (.ref b53), .val (.int (0 : Int32))] [(.int (0 : Int32))])) t := fun t k => by
      refine XS.iload X83.here hx rfl (hb hby at_151) rfl ?_
      show Steps p.tables e below (T83.setTop (mkF m 153 #[.val (.int p1), .val (.int p2), .val (.int p3), .val (.int p4), .val (.int c0), .val (.int c1), .val (.int c2), .val (.int c3), .val (.ref b20), .val (.ref b28), .val (.ref b39), .val (.ref b53), .val (.int (0 : Int32))] [(.int (0 : Int32)), (.int (0 : Int32))])) t
      refine XS.icmpNo X83.here hx rfl (hb hby at_153) rfl (teq (by decide : (0 : Int32) = (0 : Int32))).2 ?_
      show Steps p.tables e below (T83.setTop (mkF m 156 #[.val (.int p1), .val (.int p2), .val (.int p3), .val (.int p4), .val (.int c0), .val (.int c1), .val (.int c2), .val (.int c3), .val (.ref b20), .val (.ref b28), .val (.ref b39), .val (.ref b53), .val (.int (0 : Int32))] [])) t
      refine XS.aload X83.here hx rfl (hb hby at_156) rfl rfl ?_
      exact k
    refine WP.st bk84 ?_
    clear bk84
    obtain ⟨_, _, ⟨T85, L85, k85, n85⟩, -, X85, ⟨Lc85, hQ85, l85, y85, z85⟩, st85⟩ := Jvm.LawKit.callS X83 hx (y := (⟨"com/example/otayori/otayori/broker/Topics", "isDollarTopic", "(Ljava/lang/String;)Z"⟩ : MethodName)) hown (mvT hZ (hw _ (List.mem_of_getElem? (i := 34) rfl))) (mvT hZ (hw _ (List.mem_of_getElem? (i := 35) rfl))) (mvT hZ (hw _ (List.mem_of_getElem? (i := 36) rfl))) (mvT hZ (hw _ (List.mem_of_getElem? (i := 37) rfl))) (by decide) (backOf (W := 0) (rm8 l Z a0 hw [] b39 tb51 kb51 (3 : Int32) ([(nar .char c0), (nar .char c1), (nar .char c2)] : List Int32) gC gF h68 n0 Z0 E_b39 F_b39_value F_b39_coder V_tb51 ((own_hp (by intro c hc; simp only [List.mem_cons, List.not_mem_nil, or_false] at hc; rcases hc with rfl | rfl | rfl <;> first | exact own_byte_nar hb0 | exact own_byte_nar hb1 | exact own_byte_nar hb2)) : ∀ c ∈ ([(nar .char c0), (nar .char c1), (nar .char c2)] : List Int32), ¬ c < 0 ∧ ¬ (255 : Int32) < c) (rfl : (3 : Int32) = Int32.ofNat ([(nar .char c0), (nar .char c1), (nar .char c2)] : List Int32).length) (Nat.zero_lt_succ _ : 0 < ([(nar .char c0), (nar .char c1), (nar .char c2)] : List Int32).length) (Nat.le_of_ble_eq_true rfl : ([(nar .char c0), (nar .char c1), (nar .char c2)] : List Int32).length ≤ 4000) OLD (O2 : Sta Z Z.heap "java/lang/String" "COMPACT_STRINGS" "Z" (.int gC)) (hz : ¬ gC = (0 : Int32)) (O4 : Sta Z Z.heap "jdk/internal/util/Preconditions" "SIOOBE_FORMATTER" "Ljava/util/function/BiFunction;" gF) (rf : gF.isRef = true)) hZ (hw _ (List.mem_of_getElem? (i := 37) rfl)) (hw _ (List.mem_of_getElem? (i := 36) rfl)) (by decide) (by decide)) (g := (mkF m 158 #[.val (.int p1), .val (.int p2), .val (.int p3), .val (.int p4), .val (.int c0), .val (.int c1), .val (.int c2), .val (.int c3), .val (.ref b20), .val (.ref b28), .val (.ref b39), .val (.ref b53), .val (.int (0 : Int32))] [(.ref b39)])) rfl (by rw [hml]; rfl) (argsL := [(.ref b39)]) (rest := []) (lenOf pd_2 rfl) rfl (by show 2 * 0 + _ ≤ _; exact Nat.le_of_eq rfl) (hb hby at_158) (fun _ _ => ⟨rfl, Kq83, (by decide : 12 + 0 ≤ _), (by decide : 36 + 0 ≤ _)⟩)
    dsimp only [Pt.U, Pt.locs, Pt.cells, Pt.slots] at X85 l85 y85 z85 st85 hQ85
    subst l85 y85 z85
    obtain ⟨rfl, Nq85, Kq85⟩ := hQ85
    replace NF := Fr.app NF Nq85
    clear Nq85
    refine WP.st st85 ?_
    clear st85
    replace Kq85 := Kq85.trans (rfl : h68 = h68)
    show WP p.tables e below _ T85 (mkF m 161 #[.val (.int p1), .val (.int p2), .val (.int p3), .val (.int p4), .val (.int c0), .val (.int c1), .val (.int c2), .val (.int c3), .val (.ref b20), .val (.ref b28), .val (.ref b39), .val (.ref b53), .val (.int (0 : Int32))] [(.int (if ([(nar .char c0), (nar .char c1), (nar .char c2)] : List Int32).getD 0 0 = 36 then (1 : Int32) else 0))])
    rw [show (if ([(nar .char c0), (nar .char c1), (nar .char c2)] : List Int32).getD 0 0 = 36 then (1 : Int32) else 0) = (0 : Int32) from by show (if nar .char c0 = 36 then (1 : Int32) else 0) = _; rw [hb0.2.2]; simp [hc69]]
    show WP p.tables e below _ T85 (mkF m 161 #[.val (.int p1), .val (.int p2), .val (.int p3), .val (.int p4), .val (.int c0), .val (.int c1), .val (.int c2), .val (.int c3), .val (.ref b20), .val (.ref b28), .val (.ref b39), .val (.ref b53), .val (.int (0 : Int32))] [(.int (0 : Int32))])
    have bk86 : ∀ t, Steps p.tables e below (T85.setTop (mkF m 168 #[.val (.int p1), .val (.int p2), .val (.int p3), .val (.int p4), .val (.int c0), .val (.int c1), .val (.int c2), .val (.int c3), .val (.ref b20), .val (.ref b28), .val (.ref b39), .val (.ref b53), .val (.int (0 : Int32))] [(.ref b53)])) t → Steps p.tables e below (T85.setTop (mkF m 161 #[.val (.int p1), .val (.int p2), .val (.int p3), .val (.int p4), .val (.int c0), .val (.int c1), .val (.int c2), .val (.int c3), .val (.ref b20), .val (.ref b28), .val (.ref b39), .val (.ref b53), .val (.int (0 : Int32))] [(.int (0 : Int32))])) t := fun t k => by
      refine XS.iload X85.here hx rfl (hb hby at_161) rfl ?_
      show Steps p.tables e below (T85.setTop (mkF m 163 #[.val (.int p1), .val (.int p2), .val (.int p3), .val (.int p4), .val (.int c0), .val (.int c1), .val (.int c2), .val (.int c3), .val (.ref b20), .val (.ref b28), .val (.ref b39), .val (.ref b53), .val (.int (0 : Int32))] [(.int (0 : Int32)), (.int (0 : Int32))])) t
      refine XS.icmpNo X85.here hx rfl (hb hby at_163) rfl (teq (by decide : (0 : Int32) = (0 : Int32))).2 ?_
      show Steps p.tables e below (T85.setTop (mkF m 166 #[.val (.int p1), .val (.int p2), .val (.int p3), .val (.int p4), .val (.int c0), .val (.int c1), .val (.int c2), .val (.int c3), .val (.ref b20), .val (.ref b28), .val (.ref b39), .val (.ref b53), .val (.int (0 : Int32))] [])) t
      refine XS.aload X85.here hx rfl (hb hby at_166) rfl rfl ?_
      exact k
    refine WP.st bk86 ?_
    clear bk86
    obtain ⟨_, _, ⟨T87, L87, k87, n87⟩, -, X87, ⟨Lc87, hQ87, l87, y87, z87⟩, st87⟩ := Jvm.LawKit.callS X85 hx (y := (⟨"com/example/otayori/otayori/broker/Topics", "isDollarTopic", "(Ljava/lang/String;)Z"⟩ : MethodName)) hown (mvT hZ (hw _ (List.mem_of_getElem? (i := 34) rfl))) (mvT hZ (hw _ (List.mem_of_getElem? (i := 35) rfl))) (mvT hZ (hw _ (List.mem_of_getElem? (i := 36) rfl))) (mvT hZ (hw _ (List.mem_of_getElem? (i := 37) rfl))) (by decide) (backOf (W := 0) (rm8 l Z a0 hw [] b53 tb68 kb68 (4 : Int32) ([(nar .char c0), (nar .char c1), (nar .char c2), (nar .char c3)] : List Int32) gC gF h68 n0 Z0 E_b53 F_b53_value F_b53_coder V_tb68 ((own_hp (by intro c hc; simp only [List.mem_cons, List.not_mem_nil, or_false] at hc; rcases hc with rfl | rfl | rfl | rfl <;> first | exact own_byte_nar hb0 | exact own_byte_nar hb1 | exact own_byte_nar hb2 | exact own_byte_nar hb3)) : ∀ c ∈ ([(nar .char c0), (nar .char c1), (nar .char c2), (nar .char c3)] : List Int32), ¬ c < 0 ∧ ¬ (255 : Int32) < c) (rfl : (4 : Int32) = Int32.ofNat ([(nar .char c0), (nar .char c1), (nar .char c2), (nar .char c3)] : List Int32).length) (Nat.zero_lt_succ _ : 0 < ([(nar .char c0), (nar .char c1), (nar .char c2), (nar .char c3)] : List Int32).length) (Nat.le_of_ble_eq_true rfl : ([(nar .char c0), (nar .char c1), (nar .char c2), (nar .char c3)] : List Int32).length ≤ 4000) OLD (O2 : Sta Z Z.heap "java/lang/String" "COMPACT_STRINGS" "Z" (.int gC)) (hz : ¬ gC = (0 : Int32)) (O4 : Sta Z Z.heap "jdk/internal/util/Preconditions" "SIOOBE_FORMATTER" "Ljava/util/function/BiFunction;" gF) (rf : gF.isRef = true)) hZ (hw _ (List.mem_of_getElem? (i := 37) rfl)) (hw _ (List.mem_of_getElem? (i := 36) rfl)) (by decide) (by decide)) (g := (mkF m 168 #[.val (.int p1), .val (.int p2), .val (.int p3), .val (.int p4), .val (.int c0), .val (.int c1), .val (.int c2), .val (.int c3), .val (.ref b20), .val (.ref b28), .val (.ref b39), .val (.ref b53), .val (.int (0 : Int32))] [(.ref b53)])) rfl (by rw [hml]; rfl) (argsL := [(.ref b53)]) (rest := []) (lenOf pd_2 rfl) rfl (by show 2 * 0 + _ ≤ _; exact Nat.le_of_eq rfl) (hb hby at_168) (fun _ _ => ⟨rfl, Kq85, (by decide : 12 + 0 ≤ _), (by decide : 36 + 0 ≤ _)⟩)
    dsimp only [Pt.U, Pt.locs, Pt.cells, Pt.slots] at X87 l87 y87 z87 st87 hQ87
    subst l87 y87 z87
    obtain ⟨rfl, Nq87, Kq87⟩ := hQ87
    replace NF := Fr.app NF Nq87
    clear Nq87
    refine WP.st st87 ?_
    clear st87
    replace Kq87 := Kq87.trans (rfl : h68 = h68)
    show WP p.tables e below _ T87 (mkF m 171 #[.val (.int p1), .val (.int p2), .val (.int p3), .val (.int p4), .val (.int c0), .val (.int c1), .val (.int c2), .val (.int c3), .val (.ref b20), .val (.ref b28), .val (.ref b39), .val (.ref b53), .val (.int (0 : Int32))] [(.int (if ([(nar .char c0), (nar .char c1), (nar .char c2), (nar .char c3)] : List Int32).getD 0 0 = 36 then (1 : Int32) else 0))])
    rw [show (if ([(nar .char c0), (nar .char c1), (nar .char c2), (nar .char c3)] : List Int32).getD 0 0 = 36 then (1 : Int32) else 0) = (0 : Int32) from by show (if nar .char c0 = 36 then (1 : Int32) else 0) = _; rw [hb0.2.2]; simp [hc69]]
    show WP p.tables e below _ T87 (mkF m 171 #[.val (.int p1), .val (.int p2), .val (.int p3), .val (.int p4), .val (.int c0), .val (.int c1), .val (.int c2), .val (.int c3), .val (.ref b20), .val (.ref b28), .val (.ref b39), .val (.ref b53), .val (.int (0 : Int32))] [(.int (0 : Int32))])
    have bk88 : ∀ t, Steps p.tables e below (T87.setTop (mkF m 181 #[.val (.int p1), .val (.int p2), .val (.int p3), .val (.int p4), .val (.int c0), .val (.int c1), .val (.int c2), .val (.int c3), .val (.ref b20), .val (.ref b28), .val (.ref b39), .val (.ref b53), .val (.int (0 : Int32))] [(.int (1 : Int32))])) t → Steps p.tables e below (T87.setTop (mkF m 171 #[.val (.int p1), .val (.int p2), .val (.int p3), .val (.int p4), .val (.int c0), .val (.int c1), .val (.int c2), .val (.int c3), .val (.ref b20), .val (.ref b28), .val (.ref b39), .val (.ref b53), .val (.int (0 : Int32))] [(.int (0 : Int32))])) t := fun t k => by
      refine XS.iload X87.here hx rfl (hb hby at_171) rfl ?_
      show Steps p.tables e below (T87.setTop (mkF m 173 #[.val (.int p1), .val (.int p2), .val (.int p3), .val (.int p4), .val (.int c0), .val (.int c1), .val (.int c2), .val (.int c3), .val (.ref b20), .val (.ref b28), .val (.ref b39), .val (.ref b53), .val (.int (0 : Int32))] [(.int (0 : Int32)), (.int (0 : Int32))])) t
      refine XS.icmpNo X87.here hx rfl (hb hby at_173) rfl (teq (by decide : (0 : Int32) = (0 : Int32))).2 ?_
      show Steps p.tables e below (T87.setTop (mkF m 176 #[.val (.int p1), .val (.int p2), .val (.int p3), .val (.int p4), .val (.int c0), .val (.int c1), .val (.int c2), .val (.int c3), .val (.ref b20), .val (.ref b28), .val (.ref b39), .val (.ref b53), .val (.int (0 : Int32))] [])) t
      refine XS.iconst X87.here hx rfl (hb hby at_176) ?_
      show Steps p.tables e below (T87.setTop (mkF m 177 #[.val (.int p1), .val (.int p2), .val (.int p3), .val (.int p4), .val (.int c0), .val (.int c1), .val (.int c2), .val (.int c3), .val (.ref b20), .val (.ref b28), .val (.ref b39), .val (.ref b53), .val (.int (0 : Int32))] [(.int (1 : Int32))])) t
      refine XS.goto X87.here hx rfl (pc0 := 177) (pc' := 181) rfl (hb hby at_177) (by decide) (by decide) ?_
      exact k
    refine WP.st bk88 ?_
    clear bk88
    subst hG
    obtain ⟨fs, hr, hrun, hended, hW, hsame⟩ := X87.leave (v := some (.int (1 : Int32))) (fun h => by rw [Bd.returns] at h; cases h)
    refine WP.fin ⟨_, _, ?_, hrun, hended, _, _, rfl, ?_, ⟨_, rfl⟩, hW, hsame.mono (by decide) (by decide)⟩
    · exact retN X87 hx (t := .boolean) Bd.returns (by simp) (hb hby at_181) hr
    · show Q0 Z p1 p2 p3 p4 gC gF h0 n0 _ T87.heap _
      rw [Kq87]
      exact ⟨rfl, NF⟩
set_option maxRecDepth 65536 in
set_option maxHeartbeats 40000000 in
theorem comes_1 {Post : Tables → Env → Array Value → State → Outcome → State → Prop} (hpost : ∀ tb e args s v u, (limb_1_1.after args s (.returned v) u = true ∧ limb_1_2.after args s (.returned v) u = true ∧ True) → FrameEnd s (.returned v) u (Jvm.fieldLocs frame_1_writes args s ++ Jvm.arrayLocs frame_1_arrays args s ++ Jvm.staticLocs frame_1_statics s) 32 192 → Post tb e args s (.returned v) u) :
    ArmFor flags0 classFile x code maxLocals ret World_1 tables_1 room_1 Calls_1 rest_1 Pre_1 Post := by
  intro l hfl _ _ p e ha hc hk s m args below hf hA hF happ hP
  obtain ⟨hcalls, hrest, hpre⟩ := hP
  obtain ⟨-, -, -, hnamed, -, -, -, hat⟩ := (Spec.applies_iff hf).mp happ
  obtain ⟨hg, hn⟩ := and_e (Cond.before_iff.mp (show (Jvm.Cond.and given_1 narrow_1).before args s = true from hpre))
  obtain ⟨gg1, gg2⟩ := and_e hg
  obtain ⟨gg3, gg4⟩ := and_e gg2
  obtain ⟨gg5, gg6⟩ := and_e gg4
  obtain ⟨gg7, gg8⟩ := and_e gg6
  obtain ⟨w0, w1, w2, w3, rfl⟩ : ∃ w0 w1 w2 w3 : Value, args = #[w0, w1, w2, w3] := by
    have hs : args.size = 4 := by simpa [Cond.value, given_1] using gg1
    obtain ⟨L⟩ := args
    match L, hs with
    | [w0, w1, w2, w3], _ => exact ⟨w0, w1, w2, w3, rfl⟩
  have hw := fun d (hd : d ∈ tables_1) => atoms_spec (ws := Jvm.Cond.code x code maxLocals ret :: tables_1) hat d (List.mem_cons_of_mem _ hd)
  have hfit : Fit s := fun {y c} hc i hi => by
    obtain ⟨ha, rfl⟩ := Array.getElem?_eq_some_iff.mp hc
    have q := List.all_eq_true.mp ((Array.all_eq_true_iff_forall_mem.mp hF) _ (Array.getElem_mem ha)) i (List.mem_range.mpr hi)
    simpa [Array.getElem?_eq_getElem hi] using q
  obtain ⟨hsets, hown0⟩ := atoms_of _ (rest_1_c_eq ▸ (show rest_1_c.before _ s = true from hrest))
  have hr0 := Cond.before_iff.mp hown0
  obtain ⟨i0, ei0⟩ := is_v gg3
  obtain rfl : w0 = (.int i0) := Option.some.inj ei0
  obtain ⟨i1, ei1⟩ := is_v gg5
  obtain rfl : w1 = (.int i1) := Option.some.inj ei1
  obtain ⟨i2, ei2⟩ := is_v gg7
  obtain rfl : w2 = (.int i2) := Option.some.inj ei2
  obtain ⟨i3, ei3⟩ := is_v gg8
  obtain rfl : w3 = (.int i3) := Option.some.inj ei3
  obtain ⟨gC, eC⟩ := is_v (Cond.before_iff.mp (hsets _ (List.mem_of_getElem? (i := 1) rfl)))
  have O2 : Sta s s.heap "java/lang/String" "COMPACT_STRINGS" "Z" (.int gC) := Sta.start eC (Or.inl (hsets _ (List.mem_of_getElem? (i := 0) rfl)))
  have hz : ¬ (gC = (0 : Int32)) := gotF (Cond.eq_ints eC (Term.int_eval (0))) (not_v (Cond.before_iff.mp (hsets _ (List.mem_of_getElem? (i := 2) rfl))))
  obtain ⟨gF, eF, rf⟩ := isR_v (Cond.before_iff.mp (hsets _ (List.mem_of_getElem? (i := 8) rfl)))
  have O4 : Sta s s.heap "jdk/internal/util/Preconditions" "SIOOBE_FORMATTER" "Ljava/util/function/BiFunction;" gF := Sta.start eF (Or.inl (hsets _ (List.mem_of_getElem? (i := 7) rfl)))
  obtain ⟨n, o, h1, h2, h3, _, L, rfl, ⟨rfl, N⟩, hq⟩ := rm0 l s _ hw tables_1 i0 i1 i2 i3 gC gF s.heap s.heap.size (Nat.le_refl _) (Old.start s) O2 hz O4 rf p e ha hc hk s m _ below hf ((Spec.applies_iff_loose hf).mp happ).1 ⟨rfl, State.Warmed39.refl s, rfl⟩ trivial
  refine ⟨n, _, h1, h2, h3, hpost _ _ _ _ _ _ ⟨Cond.after_iff.mpr rfl, Cond.after_iff.mpr (eq_i res_at (Term.int_eval (1)) rfl), trivial⟩ ⟨hq.1, hq.2.1, (hq.2.2.sift fun y hy => Or.inr (N y hy)).mono (by decide) (by decide)⟩⟩
theorem main_1_1 : Claimed_1_1 := comes_1 fun _ _ _ _ _ _ h hF => ⟨h.1, hF⟩
theorem main_1_2 : Claimed_1_2 := comes_1 fun _ _ _ _ _ _ h hF => ⟨h.2.1, hF⟩
end Jvm.Pilot.@@N@@
namespace Jvm.Pilot.@@N@@
open Jvm Jvm.ClassFile Sem Op Lib Jvm.Free Jvm.Stand Jvm.Pilot.@@N@@.Jvm.D
/-! MADE BY PROGRAM (witnessworld.py) out of the Statement's table words and the real class files: 20 classes; the members and pool entries that the words name. The judged class is class 1, her method 2. -/
namespace start1
open Jvm.ClassFile
def u (s : String) : CpInfo := .utf8 (stringToUtf16 s)
/-- a pool by its gaps: so many unusable entries, then the entry; so many at the end -/
def gap : Nat → List CpInfo → List CpInfo
  | 0, r => r
  | n + 1, r => .unusable :: gap n r
def poolList (es : List (Nat × CpInfo)) (last : Nat) : List CpInfo := es.foldr (fun e r => gap e.1 (e.2 :: r)) (gap last [])
def pool (es : List (Nat × CpInfo)) (last : Nat) : Array CpInfo := ⟨poolList es last⟩
def fileOf (pool : Array CpInfo) (this : Nat) (attrs : Array Attribute := #[]) (ms : Array MethodInfo := #[]) (fl : Nat := 33) (sup : Nat := 0) (ifs : Array Nat := #[]) (fds : Array FieldInfo := #[]) : ClassFile where
  minorVersion := 0
  majorVersion := 65
  constantPool := pool
  accessFlags := fl
  thisClass := this
  superClass := sup
  interfaces := ifs
  fields := fds
  methods := ms
  attributes := attrs
def plain (name : String) (sup : Option ClassId) : Class where
  name := name
  kind := .ordinary
  loader := none
  accessFlags := 33
  super := sup
  interfaces := #[]
  cf := none
  fields := #[]
  methods := #[]
  instanceTypes := #[]
  staticTypes := #[]
  resolved := #[]
  callSites := []
  init := .initialized
  statics := none
  mirror := none

def pool0 : Array CpInfo := pool [(5, u "<init>"), (0, u "()V"), (1, .class_ 10), (1, u "java/lang/Object")] 113

def k0c0 : Code := { maxStack := 0, maxLocals := 1, code := object_method_1_code, exceptionTable := #[], attributes := #[] }
def k0m0 : Method := { name := "<init>", desc := "()V", sig := { parameters := [], returnType := none }, accessFlags := 1, code := some k0c0 }
/-- java/lang/Object -/
def k0 : Class := { plain "java/lang/Object" none with
  accessFlags := 33
  interfaces := #[]
  cf := some (fileOf pool0 8 #[] #[{ accessFlags := 1, nameIndex := 5, descriptorIndex := 6, attributes := #[] }] 33 0 #[] #[])
  fields := #[]
  methods := #[k0m0]
  instanceTypes := #[]
  staticTypes := #[]
  resolved := Array.replicate 124 none
  statics := none }

def pool1 : Array CpInfo := pool [(2, .class_ 4), (1, u "java/lang/Object"), (0, u "<init>"), (0, u "()V"), (0, .methodref 8 9), (0, .class_ 10), (0, .nameAndType 11 12), (0, u "com/example/otayori/otayori/broker/TopicsIsDollarTopicPinLaw"), (0, u "ch"), (0, u "(I)C"), (0, .class_ 14), (0, u "java/lang/String"), (0, .methodref 13 16), (0, .nameAndType 5 17), (0, u "([C)V"), (0, .methodref 19 20), (0, .class_ 21), (0, .nameAndType 22 23), (0, u "com/example/otayori/otayori/broker/Topics"), (0, u "isDollarTopic"), (0, u "(Ljava/lang/String;)Z"), (3, u "law"), (0, u "(IIII)Z")] 2

def k1m0 : Method := { name := "<init>", desc := "()V", sig := { parameters := [], returnType := none }, accessFlags := 2, code := none }
def k1c1 : Code := { maxStack := 2, maxLocals := 1, code := method_2_code, exceptionTable := #[], attributes := #[] }
def k1m1 : Method := { name := "ch", desc := "(I)C", sig := { parameters := [.int], returnType := some .char }, accessFlags := 10, code := some k1c1 }
def k1c2 : Code := { maxStack := 6, maxLocals := 13, code := code, exceptionTable := #[], attributes := #[] }
def k1m2 : Method := { name := "law", desc := "(IIII)Z", sig := { parameters := [.int, .int, .int, .int], returnType := some .boolean }, accessFlags := 9, code := some k1c2 }
/-- com/example/otayori/otayori/broker/TopicsIsDollarTopicPinLaw -/
def k1 : Class := { plain "com/example/otayori/otayori/broker/TopicsIsDollarTopicPinLaw" (some 0) with
  accessFlags := 49
  interfaces := #[]
  cf := some (fileOf pool1 8 #[] #[{ accessFlags := 2, nameIndex := 5, descriptorIndex := 6, attributes := #[] }, { accessFlags := 10, nameIndex := 11, descriptorIndex := 12, attributes := #[] }, { accessFlags := 9, nameIndex := 27, descriptorIndex := 28, attributes := #[] }] 49 2 #[] #[])
  fields := #[]
  methods := #[k1m0, k1m1, k1m2]
  instanceTypes := #[]
  staticTypes := #[]
  resolved := Array.replicate 31 none
  statics := none }

def pool2 : Array CpInfo := pool [(1, .class_ 2), (0, u "java/io/Serializable"), (0, .class_ 4), (0, u "java/lang/Object")] 2

/-- java/io/Serializable -/
def k2 : Class := { plain "java/io/Serializable" (some 0) with
  accessFlags := 1537
  interfaces := #[]
  cf := some (fileOf pool2 1 #[] #[] 1537 3 #[] #[])
  fields := #[]
  methods := #[]
  instanceTypes := #[]
  staticTypes := #[]
  resolved := Array.replicate 7 none
  statics := none }

def pool3 : Array CpInfo := pool [(1, .class_ 2), (0, u "java/lang/Comparable"), (0, .class_ 4), (0, u "java/lang/Object")] 7

/-- java/lang/Comparable -/
def k3 : Class := { plain "java/lang/Comparable" (some 0) with
  accessFlags := 1537
  interfaces := #[]
  cf := some (fileOf pool3 1 #[] #[] 1537 3 #[] #[])
  fields := #[]
  methods := #[]
  instanceTypes := #[]
  staticTypes := #[]
  resolved := Array.replicate 12 none
  statics := none }

def pool4 : Array CpInfo := pool [(2, .class_ 4), (1, u "java/lang/CharSequence"), (42, .class_ 48), (0, u "java/lang/CharSequence$1CodePointIterator"), (10, .class_ 60), (0, u "java/lang/CharSequence$1CharIterator"), (5, .class_ 67), (0, u "java/lang/Object")] 63

/-- java/lang/CharSequence -/
def k4 : Class := { plain "java/lang/CharSequence" (some 0) with
  accessFlags := 1537
  interfaces := #[]
  cf := some (fileOf pool4 2 #[.nestMembers #[47, 59]] #[] 1537 66 #[] #[])
  fields := #[]
  methods := #[]
  instanceTypes := #[]
  staticTypes := #[]
  resolved := Array.replicate 131 none
  statics := none }

def pool5 : Array CpInfo := pool [(1, .class_ 2), (0, u "java/lang/constant/Constable"), (0, .class_ 4), (0, u "java/lang/Object")] 6

/-- java/lang/constant/Constable -/
def k5 : Class := { plain "java/lang/constant/Constable" (some 0) with
  accessFlags := 1537
  interfaces := #[]
  cf := some (fileOf pool5 1 #[] #[] 1537 3 #[] #[])
  fields := #[]
  methods := #[]
  instanceTypes := #[]
  staticTypes := #[]
  resolved := Array.replicate 11 none
  statics := none }

def pool6 : Array CpInfo := pool [(1, .class_ 2), (0, u "java/lang/constant/ConstantDesc"), (0, .class_ 4), (0, u "java/lang/Object")] 32

/-- java/lang/constant/ConstantDesc -/
def k6 : Class := { plain "java/lang/constant/ConstantDesc" (some 0) with
  accessFlags := 1537
  interfaces := #[]
  cf := some (fileOf pool6 1 #[] #[] 1537 3 #[] #[])
  fields := #[]
  methods := #[]
  instanceTypes := #[]
  staticTypes := #[]
  resolved := Array.replicate 37 none
  statics := none }

def pool7 : Array CpInfo := pool [(1, .methodref 2 3), (0, .class_ 4), (0, .nameAndType 5 6), (0, u "java/lang/Object"), (0, u "<init>"), (0, u "()V"), (2, .fieldref 10 11), (0, .class_ 12), (0, .nameAndType 13 14), (0, u "java/lang/String"), (0, u "value"), (0, u "[B"), (0, .fieldref 10 16), (0, .nameAndType 17 18), (0, u "coder"), (0, u "B"), (2, u "hash"), (0, u "I"), (2, u "hashIsZero"), (0, u "Z"), (0, .methodref 10 28), (0, .nameAndType 5 29), (0, u "([CIILjava/lang/Void;)V"), (8, .fieldref 10 39), (0, .nameAndType 40 26), (0, u "COMPACT_STRINGS"), (1, .class_ 44), (1, u "java/lang/StringUTF16"), (0, u "compress"), (1, .methodref 42 48), (0, .nameAndType 49 50), (0, u "coderFromArrayLen"), (0, u "([BI)B"), (56, .class_ 109), (1, u "java/lang/StringLatin1"), (32, u "()Z"), (34, .methodref 42 178), (0, .nameAndType 45 179), (0, u "([CII)[B"), (183, u "([BI)C"), (27, u "(II)V"), (35, u "(I)C"), (64, .methodref 10 493), (0, .nameAndType 494 142), (0, u "isLatin1"), (0, .methodref 107 496), (0, .nameAndType 497 363), (0, u "charAt"), (3, u "checkIndex"), (73, .class_ 576), (0, u "java/lang/CharSequence"), (22, u "CASE_INSENSITIVE_ORDER"), (0, u "Ljava/util/Comparator;"), (409, u "([C)V"), (42, .fieldref 1054 1055), (0, .class_ 1056), (0, .nameAndType 1057 1058), (0, u "jdk/internal/util/Preconditions"), (0, u "SIOOBE_FORMATTER"), (0, u "Ljava/util/function/BiFunction;"), (0, .methodref 1054 1060), (0, .nameAndType 501 1061), (0, u "(IILjava/util/function/BiFunction;)I"), (39, u "serialPersistentFields"), (0, u "[Ljava/io/ObjectStreamField;"), (0, .class_ 1104), (0, u "java/lang/String$CaseInsensitiveComparator"), (1, .class_ 1107), (0, u "java/io/Serializable"), (0, .class_ 1109), (0, u "java/lang/Comparable"), (0, .class_ 1111), (0, u "java/lang/constant/Constable"), (0, .class_ 1113), (0, u "java/lang/constant/ConstantDesc"), (2, u "serialVersionUID"), (0, u "J"), (3, u "REPL"), (0, u "C"), (2, u "LATIN1"), (1, u "UTF16")] 323

def k7m0 : Method := { name := "<init>", desc := "()V", sig := { parameters := [], returnType := none }, accessFlags := 1, code := none }
def k7c1 : Code := { maxStack := 5, maxLocals := 2, code := jdk_42_method_3_code, exceptionTable := #[], attributes := #[] }
def k7m1 : Method := { name := "<init>", desc := "([C)V", sig := { parameters := [(.array .char)], returnType := none }, accessFlags := 1, code := some k7c1 }
def k7c2 : Code := { maxStack := 2, maxLocals := 2, code := jdk_42_method_56_code, exceptionTable := #[], attributes := #[] }
def k7m2 : Method := { name := "charAt", desc := "(I)C", sig := { parameters := [.int], returnType := some .char }, accessFlags := 1, code := some k7c2 }
def k7c3 : Code := { maxStack := 4, maxLocals := 6, code := jdk_42_method_149_code, exceptionTable := #[], attributes := #[] }
def k7m3 : Method := { name := "<init>", desc := "([CIILjava/lang/Void;)V", sig := { parameters := [(.array .char), .int, .int, (.object "java/lang/Void")], returnType := none }, accessFlags := 2, code := some k7c3 }
def k7c4 : Code := { maxStack := 1, maxLocals := 1, code := jdk_42_method_154_code, exceptionTable := #[], attributes := #[] }
def k7m4 : Method := { name := "isLatin1", desc := "()Z", sig := { parameters := [], returnType := some .boolean }, accessFlags := 0, code := some k7c4 }
def k7c5 : Code := { maxStack := 3, maxLocals := 2, code := jdk_42_method_155_code, exceptionTable := #[], attributes := #[] }
def k7m5 : Method := { name := "checkIndex", desc := "(II)V", sig := { parameters := [.int, .int], returnType := none }, accessFlags := 8, code := some k7c5 }
/-- java/lang/String -/
def k7 : Class := { plain "java/lang/String" (some 0) with
  accessFlags := 49
  interfaces := #[2, 3, 4, 5, 6]
  cf := some (fileOf pool7 10 #[.nestMembers #[1103]] #[{ accessFlags := 1, nameIndex := 5, descriptorIndex := 6, attributes := #[] }, { accessFlags := 1, nameIndex := 5, descriptorIndex := 1010, attributes := #[] }, { accessFlags := 1, nameIndex := 497, descriptorIndex := 427, attributes := #[] }, { accessFlags := 2, nameIndex := 5, descriptorIndex := 29, attributes := #[] }, { accessFlags := 0, nameIndex := 494, descriptorIndex := 142, attributes := #[] }, { accessFlags := 8, nameIndex := 501, descriptorIndex := 391, attributes := #[] }] 49 2 #[1106, 1108, 575, 1110, 1112] #[{ accessFlags := 18, nameIndex := 13, descriptorIndex := 14, attributes := #[] }, { accessFlags := 18, nameIndex := 17, descriptorIndex := 18, attributes := #[] }, { accessFlags := 2, nameIndex := 21, descriptorIndex := 22, attributes := #[] }, { accessFlags := 2, nameIndex := 25, descriptorIndex := 26, attributes := #[] }, { accessFlags := 26, nameIndex := 1116, descriptorIndex := 1117, attributes := #[] }, { accessFlags := 24, nameIndex := 40, descriptorIndex := 26, attributes := #[] }, { accessFlags := 26, nameIndex := 1101, descriptorIndex := 1102, attributes := #[] }, { accessFlags := 26, nameIndex := 1121, descriptorIndex := 1122, attributes := #[] }, { accessFlags := 25, nameIndex := 599, descriptorIndex := 600, attributes := #[] }, { accessFlags := 24, nameIndex := 1125, descriptorIndex := 18, attributes := #[] }, { accessFlags := 24, nameIndex := 1127, descriptorIndex := 18, attributes := #[] }])
  fields := #[{ name := "value", type := (.array .byte), accessFlags := 18, slot := 0, constantValue := 0 }, { name := "coder", type := .byte, accessFlags := 18, slot := 1, constantValue := 0 }, { name := "hash", type := .int, accessFlags := 2, slot := 2, constantValue := 0 }, { name := "hashIsZero", type := .boolean, accessFlags := 2, slot := 3, constantValue := 0 }, { name := "serialVersionUID", type := .long, accessFlags := 26, slot := 0, constantValue := 0 }, { name := "COMPACT_STRINGS", type := .boolean, accessFlags := 24, slot := 1, constantValue := 0 }, { name := "serialPersistentFields", type := (.array (.object "java/io/ObjectStreamField")), accessFlags := 26, slot := 2, constantValue := 0 }, { name := "REPL", type := .char, accessFlags := 26, slot := 3, constantValue := 0 }, { name := "CASE_INSENSITIVE_ORDER", type := (.object "java/util/Comparator"), accessFlags := 25, slot := 4, constantValue := 0 }, { name := "LATIN1", type := .byte, accessFlags := 24, slot := 5, constantValue := 0 }, { name := "UTF16", type := .byte, accessFlags := 24, slot := 6, constantValue := 0 }]
  methods := #[k7m0, k7m1, k7m2, k7m3, k7m4, k7m5]
  instanceTypes := #[(.array .byte), .byte, .int, .boolean]
  staticTypes := #[.long, .boolean, (.array (.object "java/io/ObjectStreamField")), .char, (.object "java/util/Comparator"), .byte, .byte]
  resolved := Array.replicate 1451 none
  statics := some 0 }

def pool8 : Array CpInfo := pool [(6, .class_ 8), (1, u "java/lang/Object"), (0, u "<init>"), (0, u "()V"), (1, .class_ 14), (1, u "java/lang/StringUTF16"), (31, u "$assertionsDisabled"), (0, u "Z"), (13, u "HI_BYTE_SHIFT"), (0, u "I"), (2, u "LO_BYTE_SHIFT"), (49, .methodref 12 116), (0, .nameAndType 117 118), (0, u "compress"), (0, u "([CI[BII)I"), (3, u "([CII)[B"), (138, u "coderFromArrayLen"), (0, u "([BI)B"), (106, .class_ 371), (1, u "java/lang/StringUTF16$LinesSpliterator"), (58, u "MAX_LENGTH"), (196, .class_ 628), (0, u "java/lang/StringUTF16$CodePointsSpliterator"), (0, .class_ 630), (0, u "java/lang/StringUTF16$CharsSpliterator")] 4

def k8m0 : Method := { name := "<init>", desc := "()V", sig := { parameters := [], returnType := none }, accessFlags := 0, code := none }
def k8c1 : Code := { maxStack := 2, maxLocals := 2, code := jdk_52_method_15_code, exceptionTable := #[], attributes := #[] }
def k8m1 : Method := { name := "coderFromArrayLen", desc := "([BI)B", sig := { parameters := [(.array .byte), .int], returnType := some .byte }, accessFlags := 8, code := some k8c1 }
def k8c2 : Code := { maxStack := 5, maxLocals := 6, code := jdk_52_method_16_code, exceptionTable := #[], attributes := #[] }
def k8m2 : Method := { name := "compress", desc := "([CII)[B", sig := { parameters := [(.array .char), .int, .int], returnType := some (.array .byte) }, accessFlags := 9, code := some k8c2 }
def k8c3 : Code := { maxStack := 3, maxLocals := 7, code := jdk_52_method_21_code, exceptionTable := #[], attributes := #[] }
def k8m3 : Method := { name := "compress", desc := "([CI[BII)I", sig := { parameters := [(.array .char), .int, (.array .byte), .int, .int], returnType := some .int }, accessFlags := 9, code := some k8c3 }
/-- java/lang/StringUTF16 -/
def k8 : Class := { plain "java/lang/StringUTF16" (some 0) with
  accessFlags := 48
  interfaces := #[]
  cf := some (fileOf pool8 12 #[.nestMembers #[627, 629, 369]] #[{ accessFlags := 0, nameIndex := 9, descriptorIndex := 10, attributes := #[] }, { accessFlags := 8, nameIndex := 261, descriptorIndex := 262, attributes := #[] }, { accessFlags := 9, nameIndex := 117, descriptorIndex := 122, attributes := #[] }, { accessFlags := 9, nameIndex := 117, descriptorIndex := 118, attributes := #[] }] 48 6 #[] #[{ accessFlags := 26, nameIndex := 61, descriptorIndex := 62, attributes := #[] }, { accessFlags := 26, nameIndex := 65, descriptorIndex := 62, attributes := #[] }, { accessFlags := 24, nameIndex := 430, descriptorIndex := 62, attributes := #[] }, { accessFlags := 4120, nameIndex := 46, descriptorIndex := 47, attributes := #[] }])
  fields := #[{ name := "HI_BYTE_SHIFT", type := .int, accessFlags := 26, slot := 0, constantValue := 0 }, { name := "LO_BYTE_SHIFT", type := .int, accessFlags := 26, slot := 1, constantValue := 0 }, { name := "MAX_LENGTH", type := .int, accessFlags := 24, slot := 2, constantValue := 0 }, { name := "$assertionsDisabled", type := .boolean, accessFlags := 4120, slot := 3, constantValue := 0 }]
  methods := #[k8m0, k8m1, k8m2, k8m3]
  instanceTypes := #[]
  staticTypes := #[.int, .int, .int, .boolean]
  resolved := Array.replicate 635 none
  statics := none }

def pool9 : Array CpInfo := pool [(2, .class_ 4), (1, u "java/lang/Object"), (0, u "<init>"), (0, u "()V"), (1, .class_ 10), (1, u "com/example/otayori/otayori/broker/Topics"), (3, .class_ 16), (1, u "java/lang/String"), (5, u "(Ljava/lang/String;)Z"), (7, .methodref 14 31), (0, .nameAndType 32 33), (0, u "charAt"), (0, u "(I)C"), (2, u "isDollarTopic"), (37, u "SEPARATOR"), (0, u "C"), (2, u "SINGLE_LEVEL"), (1, u "MULTI_LEVEL")] 20

def k9m0 : Method := { name := "<init>", desc := "()V", sig := { parameters := [], returnType := none }, accessFlags := 2, code := none }
def k9c1 : Code := { maxStack := 2, maxLocals := 1, code := prog_11_method_4_code, exceptionTable := #[], attributes := #[] }
def k9m1 : Method := { name := "isDollarTopic", desc := "(Ljava/lang/String;)Z", sig := { parameters := [(.object "java/lang/String")], returnType := some .boolean }, accessFlags := 8, code := some k9c1 }
/-- com/example/otayori/otayori/broker/Topics -/
def k9 : Class := { plain "com/example/otayori/otayori/broker/Topics" (some 0) with
  accessFlags := 48
  interfaces := #[]
  cf := some (fileOf pool9 8 #[] #[{ accessFlags := 2, nameIndex := 5, descriptorIndex := 6, attributes := #[] }, { accessFlags := 8, nameIndex := 36, descriptorIndex := 22, attributes := #[] }] 48 2 #[] #[{ accessFlags := 26, nameIndex := 74, descriptorIndex := 75, attributes := #[] }, { accessFlags := 26, nameIndex := 78, descriptorIndex := 75, attributes := #[] }, { accessFlags := 26, nameIndex := 80, descriptorIndex := 75, attributes := #[] }])
  fields := #[{ name := "SEPARATOR", type := .char, accessFlags := 26, slot := 0, constantValue := 0 }, { name := "SINGLE_LEVEL", type := .char, accessFlags := 26, slot := 1, constantValue := 0 }, { name := "MULTI_LEVEL", type := .char, accessFlags := 26, slot := 2, constantValue := 0 }]
  methods := #[k9m0, k9m1]
  instanceTypes := #[]
  staticTypes := #[.char, .char, .char]
  resolved := Array.replicate 101 none
  statics := none }

def pool10 : Array CpInfo := pool [(1, .class_ 2), (0, u "java/lang/String"), (1, .class_ 6), (1, u "java/lang/Object"), (0, u "<init>"), (0, u "()V"), (0, .methodref 1 10), (0, .nameAndType 11 12), (0, u "checkIndex"), (0, u "(II)V"), (1, .class_ 16), (1, u "java/lang/StringLatin1"), (36, u "([BI)C"), (67, u "$assertionsDisabled"), (0, u "Z"), (98, .class_ 223), (1, u "java/lang/StringLatin1$LinesSpliterator"), (28, u "charAt"), (137, .class_ 391), (0, u "java/lang/StringLatin1$CharsSpliterator")] 3

def k10m0 : Method := { name := "<init>", desc := "()V", sig := { parameters := [], returnType := none }, accessFlags := 0, code := none }
def k10c1 : Code := { maxStack := 2, maxLocals := 2, code := jdk_43_method_2_code, exceptionTable := #[], attributes := #[] }
def k10m1 : Method := { name := "charAt", desc := "([BI)C", sig := { parameters := [(.array .byte), .int], returnType := some .char }, accessFlags := 9, code := some k10c1 }
/-- java/lang/StringLatin1 -/
def k10 : Class := { plain "java/lang/StringLatin1" (some 0) with
  accessFlags := 48
  interfaces := #[]
  cf := some (fileOf pool10 14 #[.nestMembers #[390, 221]] #[{ accessFlags := 0, nameIndex := 7, descriptorIndex := 8, attributes := #[] }, { accessFlags := 9, nameIndex := 252, descriptorIndex := 53, attributes := #[] }] 48 4 #[] #[{ accessFlags := 4120, nameIndex := 121, descriptorIndex := 122, attributes := #[] }])
  fields := #[{ name := "$assertionsDisabled", type := .boolean, accessFlags := 4120, slot := 0, constantValue := 0 }]
  methods := #[k10m0, k10m1]
  instanceTypes := #[]
  staticTypes := #[.boolean]
  resolved := Array.replicate 395 none
  statics := none }

def pool11 : Array CpInfo := pool [(2, .class_ 4), (1, u "java/lang/Object"), (0, u "<init>"), (0, u "()V"), (17, .class_ 26), (1, u "jdk/internal/util/Preconditions"), (6, u "checkIndex"), (21, .class_ 56), (0, u "jdk/internal/util/Preconditions$4"), (57, .class_ 115), (0, u "jdk/internal/util/Preconditions$1"), (7, u "SIOOBE_FORMATTER"), (0, u "Ljava/util/function/BiFunction;"), (0, .class_ 126), (0, u "jdk/internal/util/Preconditions$2"), (3, u "AIOOBE_FORMATTER"), (0, .class_ 132), (0, u "jdk/internal/util/Preconditions$3"), (3, u "IOOBE_FORMATTER"), (41, u "(IILjava/util/function/BiFunction;)I")] 15

def k11m0 : Method := { name := "<init>", desc := "()V", sig := { parameters := [], returnType := none }, accessFlags := 1, code := none }
def k11c1 : Code := { maxStack := 3, maxLocals := 3, code := jdk_41_method_11_code, exceptionTable := #[], attributes := #[] }
def k11m1 : Method := { name := "checkIndex", desc := "(IILjava/util/function/BiFunction;)I", sig := { parameters := [.int, .int, (.object "java/util/function/BiFunction")], returnType := some .int }, accessFlags := 9, code := some k11c1 }
/-- jdk/internal/util/Preconditions -/
def k11 : Class := { plain "jdk/internal/util/Preconditions" (some 0) with
  accessFlags := 33
  interfaces := #[]
  cf := some (fileOf pool11 24 #[.nestMembers #[55, 131, 125, 114]] #[{ accessFlags := 1, nameIndex := 5, descriptorIndex := 6, attributes := #[] }, { accessFlags := 9, nameIndex := 33, descriptorIndex := 178, attributes := #[] }] 33 2 #[] #[{ accessFlags := 25, nameIndex := 123, descriptorIndex := 124, attributes := #[] }, { accessFlags := 25, nameIndex := 130, descriptorIndex := 124, attributes := #[] }, { accessFlags := 25, nameIndex := 136, descriptorIndex := 124, attributes := #[] }])
  fields := #[{ name := "SIOOBE_FORMATTER", type := (.object "java/util/function/BiFunction"), accessFlags := 25, slot := 0, constantValue := 0 }, { name := "AIOOBE_FORMATTER", type := (.object "java/util/function/BiFunction"), accessFlags := 25, slot := 1, constantValue := 0 }, { name := "IOOBE_FORMATTER", type := (.object "java/util/function/BiFunction"), accessFlags := 25, slot := 2, constantValue := 0 }]
  methods := #[k11m0, k11m1]
  instanceTypes := #[]
  staticTypes := #[(.object "java/util/function/BiFunction"), (.object "java/util/function/BiFunction"), (.object "java/util/function/BiFunction")]
  resolved := Array.replicate 194 none
  statics := some 1 }

def pool12 : Array CpInfo := pool [(9, u "<init>"), (6, .class_ 18), (1, u "java/lang/Object"), (0, u "()V"), (1, .class_ 23), (1, u "jdk/internal/util/ArraysSupport"), (0, u "LOG2_ARRAY_LONG_INDEX_SCALE"), (0, u "I"), (2, u "U"), (0, u "Ljdk/internal/misc/Unsafe;"), (8, u "BIG_ENDIAN"), (0, u "Z"), (8, u "LOG2_BYTE_BIT_SIZE"), (4, u "LOG2_ARRAY_INT_INDEX_SCALE"), (54, u "JLA"), (0, u "Ljdk/internal/access/JavaLangAccess;"), (11, u "LOG2_ARRAY_BOOLEAN_INDEX_SCALE"), (9, u "LOG2_ARRAY_BYTE_INDEX_SCALE"), (5, u "LOG2_ARRAY_CHAR_INDEX_SCALE"), (5, u "LOG2_ARRAY_SHORT_INDEX_SCALE"), (18, u "LOG2_ARRAY_FLOAT_INDEX_SCALE"), (24, u "LOG2_ARRAY_DOUBLE_INDEX_SCALE"), (89, u "T_BOOLEAN"), (2, u "T_CHAR"), (1, u "T_FLOAT"), (1, u "T_DOUBLE"), (1, u "T_BYTE"), (1, u "T_SHORT"), (1, u "T_INT"), (1, u "T_LONG"), (1, u "SOFT_MAX_ARRAY_LENGTH")] 83

def k12m0 : Method := { name := "<init>", desc := "()V", sig := { parameters := [], returnType := none }, accessFlags := 2, code := none }
/-- jdk/internal/util/ArraysSupport -/
def k12 : Class := { plain "jdk/internal/util/ArraysSupport" (some 0) with
  accessFlags := 33
  interfaces := #[]
  cf := some (fileOf pool12 21 #[] #[{ accessFlags := 2, nameIndex := 9, descriptorIndex := 19, attributes := #[] }] 33 16 #[] #[{ accessFlags := 24, nameIndex := 28, descriptorIndex := 29, attributes := #[] }, { accessFlags := 26, nameIndex := 38, descriptorIndex := 39, attributes := #[] }, { accessFlags := 25, nameIndex := 121, descriptorIndex := 25, attributes := #[] }, { accessFlags := 25, nameIndex := 131, descriptorIndex := 25, attributes := #[] }, { accessFlags := 25, nameIndex := 137, descriptorIndex := 25, attributes := #[] }, { accessFlags := 25, nameIndex := 143, descriptorIndex := 25, attributes := #[] }, { accessFlags := 25, nameIndex := 53, descriptorIndex := 25, attributes := #[] }, { accessFlags := 25, nameIndex := 24, descriptorIndex := 25, attributes := #[] }, { accessFlags := 25, nameIndex := 162, descriptorIndex := 25, attributes := #[] }, { accessFlags := 25, nameIndex := 187, descriptorIndex := 25, attributes := #[] }, { accessFlags := 26, nameIndex := 48, descriptorIndex := 25, attributes := #[] }, { accessFlags := 25, nameIndex := 277, descriptorIndex := 25, attributes := #[] }, { accessFlags := 25, nameIndex := 280, descriptorIndex := 25, attributes := #[] }, { accessFlags := 25, nameIndex := 282, descriptorIndex := 25, attributes := #[] }, { accessFlags := 25, nameIndex := 284, descriptorIndex := 25, attributes := #[] }, { accessFlags := 25, nameIndex := 286, descriptorIndex := 25, attributes := #[] }, { accessFlags := 25, nameIndex := 288, descriptorIndex := 25, attributes := #[] }, { accessFlags := 25, nameIndex := 290, descriptorIndex := 25, attributes := #[] }, { accessFlags := 25, nameIndex := 292, descriptorIndex := 25, attributes := #[] }, { accessFlags := 26, nameIndex := 108, descriptorIndex := 109, attributes := #[] }, { accessFlags := 25, nameIndex := 294, descriptorIndex := 25, attributes := #[] }])
  fields := #[{ name := "U", type := (.object "jdk/internal/misc/Unsafe"), accessFlags := 24, slot := 0, constantValue := 0 }, { name := "BIG_ENDIAN", type := .boolean, accessFlags := 26, slot := 1, constantValue := 0 }, { name := "LOG2_ARRAY_BOOLEAN_INDEX_SCALE", type := .int, accessFlags := 25, slot := 2, constantValue := 0 }, { name := "LOG2_ARRAY_BYTE_INDEX_SCALE", type := .int, accessFlags := 25, slot := 3, constantValue := 0 }, { name := "LOG2_ARRAY_CHAR_INDEX_SCALE", type := .int, accessFlags := 25, slot := 4, constantValue := 0 }, { name := "LOG2_ARRAY_SHORT_INDEX_SCALE", type := .int, accessFlags := 25, slot := 5, constantValue := 0 }, { name := "LOG2_ARRAY_INT_INDEX_SCALE", type := .int, accessFlags := 25, slot := 6, constantValue := 0 }, { name := "LOG2_ARRAY_LONG_INDEX_SCALE", type := .int, accessFlags := 25, slot := 7, constantValue := 0 }, { name := "LOG2_ARRAY_FLOAT_INDEX_SCALE", type := .int, accessFlags := 25, slot := 8, constantValue := 0 }, { name := "LOG2_ARRAY_DOUBLE_INDEX_SCALE", type := .int, accessFlags := 25, slot := 9, constantValue := 0 }, { name := "LOG2_BYTE_BIT_SIZE", type := .int, accessFlags := 26, slot := 10, constantValue := 0 }, { name := "T_BOOLEAN", type := .int, accessFlags := 25, slot := 11, constantValue := 0 }, { name := "T_CHAR", type := .int, accessFlags := 25, slot := 12, constantValue := 0 }, { name := "T_FLOAT", type := .int, accessFlags := 25, slot := 13, constantValue := 0 }, { name := "T_DOUBLE", type := .int, accessFlags := 25, slot := 14, constantValue := 0 }, { name := "T_BYTE", type := .int, accessFlags := 25, slot := 15, constantValue := 0 }, { name := "T_SHORT", type := .int, accessFlags := 25, slot := 16, constantValue := 0 }, { name := "T_INT", type := .int, accessFlags := 25, slot := 17, constantValue := 0 }, { name := "T_LONG", type := .int, accessFlags := 25, slot := 18, constantValue := 0 }, { name := "JLA", type := (.object "jdk/internal/access/JavaLangAccess"), accessFlags := 26, slot := 19, constantValue := 0 }, { name := "SOFT_MAX_ARRAY_LENGTH", type := .int, accessFlags := 25, slot := 20, constantValue := 0 }]
  methods := #[k12m0]
  instanceTypes := #[]
  staticTypes := #[(.object "jdk/internal/misc/Unsafe"), .boolean, .int, .int, .int, .int, .int, .int, .int, .int, .int, .int, .int, .int, .int, .int, .int, .int, .int, (.object "jdk/internal/access/JavaLangAccess"), .int]
  resolved := Array.replicate 378 none
  statics := none }

def pool13 : Array CpInfo := pool [(1, u "java/lang/Cloneable"), (0, .class_ 1), (0, u "java/lang/Object"), (0, .class_ 3)] 3

/-- java/lang/Cloneable -/
def k13 : Class := { plain "java/lang/Cloneable" (some 0) with
  accessFlags := 1537
  interfaces := #[]
  cf := some (fileOf pool13 2 #[] #[] 1537 4 #[] #[])
  fields := #[]
  methods := #[]
  instanceTypes := #[]
  staticTypes := #[]
  resolved := Array.replicate 8 none
  statics := none }

/-- the primitive byte -/
def k14 : Class := { plain "byte" none with kind := .primitive 'B', accessFlags := 0x411 }
/-- [B -/
def k15 : Class := { plain "[B" (some 0) with kind := .array 14 .byte, interfaces := #[13, 2], accessFlags := 1041 }

/-- the primitive char -/
def k16 : Class := { plain "char" none with kind := .primitive 'C', accessFlags := 0x411 }
/-- [C -/
def k17 : Class := { plain "[C" (some 0) with kind := .array 16 .char, interfaces := #[13, 2], accessFlags := 1041 }

/-- the primitive int -/
def k18 : Class := { plain "int" none with kind := .primitive 'I', accessFlags := 0x411 }
/-- [I -/
def k19 : Class := { plain "[I" (some 0) with kind := .array 18 .int, interfaces := #[13, 2], accessFlags := 1041 }

def heap : Heap := #[{ cls := 7, slots := #[.long 0, .int 1, .null, .int 0, .null, .int 0, .int 0], vm := .statics 7 },
  { cls := 11, slots := #[.null, .null, .null], vm := .statics 11 }]
def classes : Array Class := #[k0, k1, k2, k3, k4, k5, k6, k7, k8, k9, k10, k11, k12, k13, k14, k15, k16, k17, k18, k19]
def interned : List (Array UInt16 × Addr) := []
def slotsUsed : Nat := 10
def theMethod : MethodId := ⟨1, 2⟩
def args0 : Array Value := #[.int 1, .int 3, .int 4, .int 7]
def aboutOver (below : List Frame) : State where
  vm := { classes := classes, interned := interned.toArray }
  heap := heap
  slotsUsed := slotsUsed
  threads := #[{ frames := .invoking theMethod args0 :: below }]
def below0 : List Frame := [.native { method := ⟨0, 0⟩, args := #[] }]
def about1 : State := aboutOver below0
def p0 : Program := .bare "" "" ""
def e0 : Env := launch0.env 0 0 0
theorem w_frames : about1.frames = Frame.invoking theMethod args0 :: below0 := rfl
set_option maxRecDepth 65536 in
theorem w_args : argsFit about1.vm theMethod args0 = true := by decide +kernel
set_option maxRecDepth 65536 in
theorem w_heap : heapFits about1 = true := by decide +kernel
set_option maxRecDepth 65536 in
theorem w_runnable : about1.curStatus? = some .runnable := by decide +kernel
set_option maxRecDepth 65536 in
theorem w_alone : about1.alone = true := by decide +kernel
set_option maxRecDepth 65536 in
theorem w_named : about1.methodNamed? x = some theMethod := by decide +kernel
set_option maxRecDepth 65536 in
theorem w_hears : about1.hears theMethod below0 = true := by decide +kernel
set_option maxRecDepth 65536 in
theorem w_ripe : about1.ripe theMethod args0 below0 = true := by decide +kernel
theorem w_running : about1.status = .running := rfl
set_option maxRecDepth 65536 in
theorem w_room : about1.hasRoom e0.platform room_1 = true :=
  launch0.hasRoom_least _ room_1 (by decide +kernel) (by decide +kernel) (by decide +kernel) (by decide +kernel) (by decide +kernel) (by decide +kernel)
theorem allAtoms_all (ts : List Jvm.Cond) (a : Array Jvm.Value) (st : Jvm.State) : (allAtoms ts).before a st = ts.all (fun c => c.before a st) := by
  induction ts with
  | nil => rfl
  | cons c t ih =>
    show (Jvm.Cond.and c (allAtoms t)).before a st = _
    rw [Jvm.Cond.before_and, ih, List.all_cons]
def words1 : List Jvm.Cond := Jvm.Cond.code x code maxLocals ret :: tables_1
/-- a 'code' word, met by the world's own term for the bytes: nothing is compared byte by byte -/
theorem code_word {y : MethodName} {bytes : ByteArray} {mx : Nat} {rt : Option FieldType} {a : Array Value} {s : State} {m : MethodId} {meth : Method} {c : Code} (h1 : s.methodNamed? y = some m) (h2 : s.vm.method? m = some meth) (h3 : meth.code = some c) (h4 : c.code = bytes)
    (h5 : (c.maxLocals == mx && c.exceptionTable.isEmpty && decide (c.maxStack ≤ mostOperands) && decide (meth.sig.returnType = rt) && !meth.locks && decide (parseMethodDescriptor y.desc = some meth.sig)) = true) : (Jvm.Cond.code y bytes mx rt).before a s = true := by
  simp only [Bool.and_eq_true, beq_iff_eq, Bool.not_eq_true', decide_eq_true_eq] at h5
  obtain ⟨⟨⟨⟨⟨g1, g2⟩, g3⟩, g4⟩, g5⟩, g6⟩ := h5
  simp [Cond.before, Cond.holds, Cond.value, h1, h2, h3, h4, g1, g2, g3, g4, g5, g6]
def isCode : Jvm.Cond → Bool
  | .code _ _ _ _ => true
  | _ => false
theorem all_split {L : List Jvm.Cond} {P : Jvm.Cond → Bool} (h1 : L.all (fun c => isCode c || P c) = true) (h2 : ∀ c ∈ L.filter isCode, P c = true) : L.all P = true := by
  refine List.all_eq_true.mpr fun c hc => ?_
  have h := List.all_eq_true.mp h1 c hc
  rcases Bool.eq_false_or_eq_true (isCode c) with hi | hi
  · exact h2 c (List.mem_filter.mpr ⟨hc, hi⟩)
  · simpa [hi] using h
set_option maxRecDepth 65536 in
theorem w_c0 : (Jvm.Cond.code x code maxLocals ret).before args0 about1 = true := code_word (m := ⟨1, 2⟩) (meth := k1m2) (c := k1c2) (by decide +kernel) rfl rfl rfl (by decide +kernel)
set_option maxRecDepth 65536 in
theorem w_c1 : (Jvm.Cond.code ({ cls := "com/example/otayori/otayori/broker/TopicsIsDollarTopicPinLaw", name := "ch", desc := "(I)C" } : Jvm.MethodName) method_2_code (1 : Nat) (Option.some Jvm.ClassFile.FieldType.char)).before args0 about1 = true := code_word (m := ⟨1, 1⟩) (meth := k1m1) (c := k1c1) (by decide +kernel) rfl rfl rfl (by decide +kernel)
set_option maxRecDepth 65536 in
theorem w_c2 : (Jvm.Cond.code ({ cls := "java/lang/String", name := "<init>", desc := "([C)V" } : Jvm.MethodName) jdk_42_method_3_code (2 : Nat) (Option.none : Option Jvm.ClassFile.FieldType)).before args0 about1 = true := code_word (m := ⟨7, 1⟩) (meth := k7m1) (c := k7c1) (by decide +kernel) rfl rfl rfl (by decide +kernel)
set_option maxRecDepth 65536 in
theorem w_c3 : (Jvm.Cond.code ({ cls := "java/lang/String", name := "<init>", desc := "([CIILjava/lang/Void;)V" } : Jvm.MethodName) jdk_42_method_149_code (6 : Nat) (Option.none : Option Jvm.ClassFile.FieldType)).before args0 about1 = true := code_word (m := ⟨7, 3⟩) (meth := k7m3) (c := k7c3) (by decide +kernel) rfl rfl rfl (by decide +kernel)
set_option maxRecDepth 65536 in
theorem w_c4 : (Jvm.Cond.code ({ cls := "java/lang/Object", name := "<init>", desc := "()V" } : Jvm.MethodName) object_method_1_code (1 : Nat) (Option.none : Option Jvm.ClassFile.FieldType)).before args0 about1 = true := code_word (m := ⟨0, 0⟩) (meth := k0m0) (c := k0c0) (by decide +kernel) rfl rfl rfl (by decide +kernel)
set_option maxRecDepth 65536 in
theorem w_c5 : (Jvm.Cond.code ({ cls := "java/lang/StringUTF16", name := "compress", desc := "([CII)[B" } : Jvm.MethodName) jdk_52_method_16_code (6 : Nat) (Option.some (Jvm.ClassFile.FieldType.array Jvm.ClassFile.FieldType.byte))).before args0 about1 = true := code_word (m := ⟨8, 2⟩) (meth := k8m2) (c := k8c2) (by decide +kernel) rfl rfl rfl (by decide +kernel)
set_option maxRecDepth 65536 in
theorem w_c6 : (Jvm.Cond.code ({ cls := "java/lang/StringUTF16", name := "compress", desc := "([CI[BII)I" } : Jvm.MethodName) jdk_52_method_21_code (7 : Nat) (Option.some Jvm.ClassFile.FieldType.int)).before args0 about1 = true := code_word (m := ⟨8, 3⟩) (meth := k8m3) (c := k8c3) (by decide +kernel) rfl rfl rfl (by decide +kernel)
set_option maxRecDepth 65536 in
theorem w_c7 : (Jvm.Cond.code ({ cls := "java/lang/StringUTF16", name := "coderFromArrayLen", desc := "([BI)B" } : Jvm.MethodName) jdk_52_method_15_code (2 : Nat) (Option.some Jvm.ClassFile.FieldType.byte)).before args0 about1 = true := code_word (m := ⟨8, 1⟩) (meth := k8m1) (c := k8c1) (by decide +kernel) rfl rfl rfl (by decide +kernel)
set_option maxRecDepth 65536 in
theorem w_c8 : (Jvm.Cond.code ({ cls := "com/example/otayori/otayori/broker/Topics", name := "isDollarTopic", desc := "(Ljava/lang/String;)Z" } : Jvm.MethodName) prog_11_method_4_code (1 : Nat) (Option.some Jvm.ClassFile.FieldType.boolean)).before args0 about1 = true := code_word (m := ⟨9, 1⟩) (meth := k9m1) (c := k9c1) (by decide +kernel) rfl rfl rfl (by decide +kernel)
set_option maxRecDepth 65536 in
theorem w_c9 : (Jvm.Cond.code ({ cls := "java/lang/String", name := "charAt", desc := "(I)C" } : Jvm.MethodName) jdk_42_method_56_code (2 : Nat) (Option.some Jvm.ClassFile.FieldType.char)).before args0 about1 = true := code_word (m := ⟨7, 2⟩) (meth := k7m2) (c := k7c2) (by decide +kernel) rfl rfl rfl (by decide +kernel)
set_option maxRecDepth 65536 in
theorem w_c10 : (Jvm.Cond.code ({ cls := "java/lang/String", name := "isLatin1", desc := "()Z" } : Jvm.MethodName) jdk_42_method_154_code (1 : Nat) (Option.some Jvm.ClassFile.FieldType.boolean)).before args0 about1 = true := code_word (m := ⟨7, 4⟩) (meth := k7m4) (c := k7c4) (by decide +kernel) rfl rfl rfl (by decide +kernel)
set_option maxRecDepth 65536 in
theorem w_c11 : (Jvm.Cond.code ({ cls := "java/lang/StringLatin1", name := "charAt", desc := "([BI)C" } : Jvm.MethodName) jdk_43_method_2_code (2 : Nat) (Option.some Jvm.ClassFile.FieldType.char)).before args0 about1 = true := code_word (m := ⟨10, 1⟩) (meth := k10m1) (c := k10c1) (by decide +kernel) rfl rfl rfl (by decide +kernel)
set_option maxRecDepth 65536 in
theorem w_c12 : (Jvm.Cond.code ({ cls := "java/lang/String", name := "checkIndex", desc := "(II)V" } : Jvm.MethodName) jdk_42_method_155_code (2 : Nat) (Option.none : Option Jvm.ClassFile.FieldType)).before args0 about1 = true := code_word (m := ⟨7, 5⟩) (meth := k7m5) (c := k7c5) (by decide +kernel) rfl rfl rfl (by decide +kernel)
set_option maxRecDepth 65536 in
theorem w_c13 : (Jvm.Cond.code ({ cls := "jdk/internal/util/Preconditions", name := "checkIndex", desc := "(IILjava/util/function/BiFunction;)I" } : Jvm.MethodName) jdk_41_method_11_code (3 : Nat) (Option.some Jvm.ClassFile.FieldType.int)).before args0 about1 = true := code_word (m := ⟨11, 1⟩) (meth := k11m1) (c := k11c1) (by decide +kernel) rfl rfl rfl (by decide +kernel)
def codes1 : List Jvm.Cond := [Jvm.Cond.code x code maxLocals ret, Jvm.Cond.code ({ cls := "com/example/otayori/otayori/broker/TopicsIsDollarTopicPinLaw", name := "ch", desc := "(I)C" } : Jvm.MethodName) method_2_code (1 : Nat) (Option.some Jvm.ClassFile.FieldType.char), Jvm.Cond.code ({ cls := "java/lang/String", name := "<init>", desc := "([C)V" } : Jvm.MethodName) jdk_42_method_3_code (2 : Nat) (Option.none : Option Jvm.ClassFile.FieldType), Jvm.Cond.code ({ cls := "java/lang/String", name := "<init>", desc := "([CIILjava/lang/Void;)V" } : Jvm.MethodName) jdk_42_method_149_code (6 : Nat) (Option.none : Option Jvm.ClassFile.FieldType), Jvm.Cond.code ({ cls := "java/lang/Object", name := "<init>", desc := "()V" } : Jvm.MethodName) object_method_1_code (1 : Nat) (Option.none : Option Jvm.ClassFile.FieldType), Jvm.Cond.code ({ cls := "java/lang/StringUTF16", name := "compress", desc := "([CII)[B" } : Jvm.MethodName) jdk_52_method_16_code (6 : Nat) (Option.some (Jvm.ClassFile.FieldType.array Jvm.ClassFile.FieldType.byte)), Jvm.Cond.code ({ cls := "java/lang/StringUTF16", name := "compress", desc := "([CI[BII)I" } : Jvm.MethodName) jdk_52_method_21_code (7 : Nat) (Option.some Jvm.ClassFile.FieldType.int), Jvm.Cond.code ({ cls := "java/lang/StringUTF16", name := "coderFromArrayLen", desc := "([BI)B" } : Jvm.MethodName) jdk_52_method_15_code (2 : Nat) (Option.some Jvm.ClassFile.FieldType.byte), Jvm.Cond.code ({ cls := "com/example/otayori/otayori/broker/Topics", name := "isDollarTopic", desc := "(Ljava/lang/String;)Z" } : Jvm.MethodName) prog_11_method_4_code (1 : Nat) (Option.some Jvm.ClassFile.FieldType.boolean), Jvm.Cond.code ({ cls := "java/lang/String", name := "charAt", desc := "(I)C" } : Jvm.MethodName) jdk_42_method_56_code (2 : Nat) (Option.some Jvm.ClassFile.FieldType.char), Jvm.Cond.code ({ cls := "java/lang/String", name := "isLatin1", desc := "()Z" } : Jvm.MethodName) jdk_42_method_154_code (1 : Nat) (Option.some Jvm.ClassFile.FieldType.boolean), Jvm.Cond.code ({ cls := "java/lang/StringLatin1", name := "charAt", desc := "([BI)C" } : Jvm.MethodName) jdk_43_method_2_code (2 : Nat) (Option.some Jvm.ClassFile.FieldType.char), Jvm.Cond.code ({ cls := "java/lang/String", name := "checkIndex", desc := "(II)V" } : Jvm.MethodName) jdk_42_method_155_code (2 : Nat) (Option.none : Option Jvm.ClassFile.FieldType), Jvm.Cond.code ({ cls := "jdk/internal/util/Preconditions", name := "checkIndex", desc := "(IILjava/util/function/BiFunction;)I" } : Jvm.MethodName) jdk_41_method_11_code (3 : Nat) (Option.some Jvm.ClassFile.FieldType.int)]
set_option maxRecDepth 65536 in
theorem codes_eq : words1.filter isCode = codes1 := rfl
theorem w_codes : ∀ c ∈ words1.filter isCode, c.before args0 about1 = true := by
  rw [codes_eq]
  intro c hc
  simp only [codes1, List.mem_cons, List.not_mem_nil, or_false] at hc
  rcases hc with rfl | rfl | rfl | rfl | rfl | rfl | rfl | rfl | rfl | rfl | rfl | rfl | rfl | rfl
  · exact w_c0
  · exact w_c1
  · exact w_c2
  · exact w_c3
  · exact w_c4
  · exact w_c5
  · exact w_c6
  · exact w_c7
  · exact w_c8
  · exact w_c9
  · exact w_c10
  · exact w_c11
  · exact w_c12
  · exact w_c13
set_option maxRecDepth 65536 in
theorem w_t1 : (words1.take 24).all (fun c => isCode c || c.before args0 about1) = true := by decide +kernel
set_option maxRecDepth 65536 in
theorem w_t2 : ((words1.drop 24).take 24).all (fun c => isCode c || c.before args0 about1) = true := by decide +kernel
set_option maxRecDepth 65536 in
theorem w_t3 : ((words1.drop 24).drop 24).all (fun c => isCode c || c.before args0 about1) = true := by decide +kernel
theorem w_tables : (allAtoms (Jvm.Cond.code x code maxLocals ret :: tables_1)).before args0 about1 = true := by
  rw [allAtoms_all]
  show words1.all (fun c => c.before args0 about1) = true
  refine all_split ?_ w_codes
  rw [← List.take_append_drop 24 words1, List.all_append, w_t1, ← List.take_append_drop 24 (words1.drop 24), List.all_append, w_t2, w_t3]
  rfl
set_option maxRecDepth 65536 in
theorem w_rest : rest_1_c.before args0 about1 = true := by decide +kernel
set_option maxRecDepth 65536 in
theorem w_case : (Jvm.Cond.and given_1 narrow_1).before args0 about1 = true := by decide +kernel
theorem w_applies : (headSpec (Jvm.Cond.code x code maxLocals ret :: tables_1) room_1).applies x e0.platform about1 = true :=
  (Spec.applies_iff w_frames).mpr ⟨w_running, w_runnable, w_alone, w_named, w_hears, w_ripe, w_room, w_tables⟩
theorem atStart : AtStart classFile x code maxLocals ret World_1 tables_1 room_1 Calls_1 rest_1 Pre_1 launch0 p0 e0 about1 theMethod args0 below0 :=
  ⟨lists_1, trivial, launch0.admits_env _ _ _, launch0.least_env, fairChoices_fair.cas, fairChoices_fair.clock, w_frames, w_args, w_heap, w_applies, trivial, w_rest, w_case⟩
end start1
theorem witness_1 : WitnessClaimed_1 := ⟨start1.p0, start1.e0, start1.about1, start1.theMethod, start1.args0, start1.below0, start1.atStart⟩
end Jvm.Pilot.@@N@@
