import JvmDerived
import JvmDerived.Pilot.@@N@@Statement
import JvmDerived.Pilot.@@N@@Code
set_option linter.unusedVariables false
set_option linter.unusedSimpArgs false
namespace Jvm.RoadKit
open Sem ClassFile Op Lib Jvm.Stand Jvm.Free Jvm.LawKit
section New
variable {p : Program} {l : Launch} {e : Env} {R : Room} {s : State} {m : MethodId} {args : Array Value} {below : List Frame} {meth : Method} {c : Code} {T : State} {locs : List Loc} {cells slots : Nat}
theorem retI (X : Stand p l e R s m args below meth c T locs cells slots) (hx : p.tables.exec = Jvm.exec) {pc : Nat} {Ls : Array Slot} {z : Int32} {rest : List Value} (hret : meth.sig.returnType = some .int) (hd : decode c.code pc = .ok (.ireturn, 1)) {fs : List Frame}
    (hl : ∀ (f : JFrame) (acts : List Action), f.method = m → f.locked = none → f.entered = [] → (doReturn e (T.setTop f) acts (some (.int z))).1 = T.setFrames fs) : Steps p.tables e below (T.setTop (mkF m pc Ls (.int z :: rest))) (T.setFrames fs) := by
  have hm' : T.vm.method? m = some meth := X.method'
  have hn : narrow .int (.int z) = .int z := rfl
  show Steps p.tables e below (T.setTop { method := m, pc := pc, locals := Ls, stack := _ :: rest, locked := none }) _
  jvm_step X.here [X.here.top, hx, hd, hm', hret, hn]
  first | (intro acts; rw [hl _ acts rfl rfl rfl]) | rw [hl _ _ rfl rfl rfl]
  exact Steps.refl _
/-- from here the run ends as G says -/
def WP (tb : Tables) (e : Env) (below : List Frame) (G : State → Outcome → Prop) (T : State) (f : JFrame) : Prop := ∃ s₂ o, Steps tb e below (T.setTop f) s₂ ∧ G s₂ o
theorem WP.go {tb : Tables} {G : State → Outcome → Prop} {f : JFrame} (h : WP tb e below G T f) : ∃ s₂ o, Steps tb e below (T.setTop f) s₂ ∧ G s₂ o := h
theorem WP.fin {tb : Tables} {G : State → Outcome → Prop} {f : JFrame} (h : ∃ s₂ o, Steps tb e below (T.setTop f) s₂ ∧ G s₂ o) : WP tb e below G T f := h
theorem WP.cast {tb : Tables} {G : State → Outcome → Prop} {f f' : JFrame} (q : f = f') (h : WP tb e below G T f') : WP tb e below G T f := q ▸ h
theorem WP.st {tb : Tables} {G : State → Outcome → Prop} {T' : State} {f f' : JFrame} (k : ∀ t, Steps tb e below (T'.setTop f') t → Steps tb e below (T.setTop f) t) (h : WP tb e below G T' f') : WP tb e below G T f := by
  obtain ⟨s₂, o, h1, h2⟩ := h
  exact ⟨s₂, o, k _ h1, h2⟩
theorem WP.tr {tb : Tables} {G : State → Outcome → Prop} {T' : State} {f f' : JFrame} (k : Steps tb e below (T.setTop f) (T'.setTop f')) (h : WP tb e below G T' f') : WP tb e below G T f := by
  obtain ⟨s₂, o, h1, h2⟩ := h
  exact ⟨s₂, o, k.trans h1, h2⟩
theorem WP.name {tb : Tables} {G : State → Outcome → Prop} {f : JFrame} (h : ∀ G', G' = G → WP tb e below G' T f) : WP tb e below G T f := h G rfl
theorem ownWider (X : Stand p l e R s m args below meth c T locs cells slots) {c' s' : Nat} (h1 : cells ≤ c') (h2 : slots ≤ s') : Stand p l e R s m args below meth c T locs c' s' := { X with same := X.same.mono h1 h2 }
end New
theorem Arv.rd {Z : State} {h : Heap} {a : Addr} {k : ClassId} {ty : FieldType} {z j : Int32} {vs : List Value} {dv : Value} (F : Arv Z h a k ty z vs dv) (hj : ¬ j < 0 ∧ j < z) : ∃ c : Cell, Arr Z h a c ty ∧ ¬ (j < 0 ∨ c.slots.size ≤ j.toNatClampNeg) ∧ c.slots[j.toNatClampNeg]? = some (vs.getD j.toNatClampNeg dv) ∧ c.slots.size.toInt32 = z := by
  obtain ⟨c, A, -, S, q, H, -⟩ := F
  have hin := inb_of S hj
  exact ⟨c, A, hin, H.at hin rfl, len_of S q⟩
theorem Arv.len {Z : State} {h : Heap} {a : Addr} {k : ClassId} {ty : FieldType} {z : Int32} {vs : List Value} {dv : Value} (F : Arv Z h a k ty z vs dv) : ∃ c : Cell, Arr Z h a c ty ∧ c.slots.size.toInt32 = z := by
  obtain ⟨c, A, -, S, q, -, -⟩ := F
  exact ⟨c, A, len_of S q⟩
theorem ownSel {s : State} {args : Array Value} {C : String} {x z y : MethodName} (hz : (Cond.selects C x z).before args s = true) (e : z.cls = y.cls) (hpriv : s.PrivateAt y) (hinst : (Cond.instanceMethod y).before args s = true) (hy : y.cls ≠ "java/lang/invoke/MethodHandle" ∧ y.cls ≠ "java/lang/invoke/VarHandle") : (Cond.selects y.cls y y).before args s = true := by
  obtain ⟨c2, r2, m2, -, -, q3, -, kP, hkP, hkPi⟩ := Cond.selects_spec hz
  exact selects_self_of_private (e ▸ findClass_of_methodNamed q3) hkP hkPi hpriv hinst hy
theorem ownNeOr {o x y : Addr} {h : Heap} (hn : o ≠ y) (hl : o < h.size) (hor : x = y ∨ h.size ≤ x) : o ≠ x := hor.elim (fun q => q ▸ hn) (fun q => Nat.ne_of_lt (Nat.lt_of_lt_of_le hl q))
theorem ownFits {t : FieldType} {x : Int32} {y : Value} (h : narrow t (.int x) = y) (hf : fits t (narrow t (.int x)) = true) : fits t y = true := h ▸ hf
theorem nar01 {b : Int32} (h : b = 0 ∨ b = 1) : nar .boolean b = b := by rcases h with rfl | rfl <;> rfl
end Jvm.RoadKit
/- laws to paste: Road.backV, Road.chN, Road.codOf (cut by pick.py; bodies as the Statement names them) -/
namespace Jvm.Pilot.@@N@@
namespace StrChars
open Jvm Sem ClassFile Op Lib Jvm.Stand Jvm.Free.XT Jvm.Free.ALB Jvm.Free.JM Jvm.Free
open Jvm.Lib.Cold (StaticIs)
/-- a char array whose places are chars -/
def Ch (a : Addr) (A : Cell) (U : State) : Prop := Arr .char a A U ∧ Typed .char A
theorem Ch.mv {a : Addr} {A : Cell} {U U' : State} (h : Ch a A U) (hal : U.vm.Alike U'.vm) (hh : U'.heap = U.heap) : Ch a A U' := ⟨h.1.mv hal hh, h.2⟩
theorem Ch.keep {a : Addr} {A : Cell} {U U' : State} (h : Ch a A U) (hal : U.vm.Alike U'.vm) (hk : U'.heap[a]? = some A) : Ch a A U' := ⟨h.1.keep hal hk, h.2⟩
/-- what place i of a char[]'s cell holds -/
def cv (A : Cell) (i : Nat) : Int32 := match A.slots[i]? with | some (.int x) => x | _ => 0
theorem Ch.get {a : Addr} {A : Cell} {U : State} (h : Ch a A U) {i : Nat} (hi : i < A.slots.size) : A.slots[i]? = some (.int (cv A i)) := by
  have e := Array.getElem?_eq_getElem hi
  have f := h.2 i _ e
  unfold cv; rw [e]
  generalize A.slots[i] = v at f
  cases v <;> simp [fits] at f ⊢
/-- the byte that i2b leaves of a char -/
def lo8 (x : Int32) : Int32 := x.toInt8.toInt32
theorem fits_lo8 (y : Int32) : fits .byte (.int (lo8 y)) = true := by
  have h1 := y.toInt8.le_toInt
  have h2 := y.toInt8.toInt_lt
  simp only [lo8, fits, Bool.and_eq_true, decide_eq_true_eq, Int32.le_iff_toInt_le, Int8.toInt_toInt32, show (-128 : Int32).toInt = -128 from by decide, show (127 : Int32).toInt = 127 from by decide]
  omega
/-- A' is A but that each place j of lo .. hi - 1 holds f j -/
def Laid (A A' : Cell) (lo hi : Nat) (f : Nat → Value) : Prop := A'.cls = A.cls ∧ A'.vm = A.vm ∧ A'.slots.size = A.slots.size ∧ ∀ i, A'.slots[i]? = if lo ≤ i ∧ i < hi then some (f i) else A.slots[i]?
theorem Laid.zero (A : Cell) (lo : Nat) (f : Nat → Value) : Laid A A lo (lo + 0) f := ⟨rfl, rfl, rfl, fun i => by rw [if_neg (by omega)]⟩
theorem Laid.step {A Ak : Cell} {lo k : Nat} {f : Nat → Value} {v : Value} (h : Laid A Ak lo k f) (hlo : lo ≤ k) (hk : k < Ak.slots.size) (hv : v = f k) : Laid A (Ak.setSlot k v) lo (k + 1) f := by
  refine ⟨h.1, h.2.1, by simpa [Cell.setSlot] using h.2.2.1, fun i => ?_⟩
  by_cases e : k = i
  · subst e; rw [Cell.slots_setSlot_self v hk, if_pos (by omega), hv]
  · rw [Cell.slots_setSlot_ne v e, h.2.2.2 i]
    by_cases q : lo ≤ i ∧ i < k
    · rw [if_pos q, if_pos (by omega)]
    · rw [if_neg q, if_neg (by omega)]
def U16 : String := "java/lang/StringUTF16"
namespace Cmp5
def yN : MethodName := ⟨"java/lang/StringUTF16", "compress", "([CI[BII)I"⟩
abbrev yB : ByteArray := jdk_52_method_21_code
theorem d0 : decode yB 0 = .ok (.iconst 0, 1) := by decide +kernel
theorem d1 : decode yB 1 = .ok (.istore 5, 2) := by decide +kernel
theorem d3 : decode yB 3 = .ok (.iload 5, 2) := by decide +kernel
theorem d5 : decode yB 5 = .ok (.iload 4, 2) := by decide +kernel
theorem d7 : decode yB 7 = .ok (.if_icmp (.ge) 37, 3) := by decide +kernel
theorem d10 : decode yB 10 = .ok (.aload_n 0, 1) := by decide +kernel
theorem d11 : decode yB 11 = .ok (.iload_n 1, 1) := by decide +kernel
theorem d12 : decode yB 12 = .ok (.caload, 1) := by decide +kernel
theorem d13 : decode yB 13 = .ok (.istore 6, 2) := by decide +kernel
theorem d15 : decode yB 15 = .ok (.iload 6, 2) := by decide +kernel
theorem d17 : decode yB 17 = .ok (.sipush 255, 3) := by decide +kernel
theorem d20 : decode yB 20 = .ok (.if_icmp (.le) 6, 3) := by decide +kernel
theorem d26 : decode yB 26 = .ok (.aload_n 2, 1) := by decide +kernel
theorem d27 : decode yB 27 = .ok (.iload_n 3, 1) := by decide +kernel
theorem d28 : decode yB 28 = .ok (.iload 6, 2) := by decide +kernel
theorem d30 : decode yB 30 = .ok (.i2b, 1) := by decide +kernel
theorem d31 : decode yB 31 = .ok (.bastore, 1) := by decide +kernel
theorem d32 : decode yB 32 = .ok (.iinc 1 1, 3) := by decide +kernel
theorem d35 : decode yB 35 = .ok (.iinc 3 1, 3) := by decide +kernel
theorem d38 : decode yB 38 = .ok (.iinc 5 1, 3) := by decide +kernel
theorem d41 : decode yB 41 = .ok (.goto (-38), 3) := by decide +kernel
theorem d44 : decode yB 44 = .ok (.iload 4, 2) := by decide +kernel
theorem d46 : decode yB 46 = .ok (.ireturn, 1) := by decide +kernel
def site : List Cond := []
def tab : Cond := tabOf yN yB 7 (some .int) site
def P (b : Addr) (A : Cell) (d : Addr) (B : Cell) (o q len : Nat) (args : Array Value) (s : State) : Prop := args = #[.ref b, .int (Int32.ofNat o), .ref d, .int (Int32.ofNat q), .int (Int32.ofNat len)] ∧ Ch b A s ∧ Arr .byte d B s ∧ b ≠ d ∧ o + len ≤ A.slots.size ∧ q + len ≤ B.slots.size ∧ ∀ i, i < len → ¬ 255 < cv A (o + i)
def E (b : Addr) (A : Cell) (d : Addr) (B : Cell) (o q len : Nat) (r : Option Value) (s u : State) : Prop := r = some (.int (Int32.ofNat len)) ∧ ∃ B', Put d B' s u ∧ Laid B B' q (q + len) (fun j => Value.int (lo8 (cv A (o + (j - q)))))
/-- no char of the range above 255: len; the places written hold each char's low byte -/
theorem law (l : Launch) (b : Addr) (A : Cell) (d : Addr) (B : Cell) (o q len : Nat) : Law l yN 5 5 0 0 yB 7 (some .int) site (P b A d B o q len) (E b A d B o q len) (copyLocs d q len) 0 0 := by
  refine Law.of_walk (plainFor_of_name (by decide +kernel)) (by decide +kernel) (by decide +kernel) (by decide) (fun _ _ h => by rw [h.1]; rfl) (fun _ U U' hal hh h => ⟨h.1, h.2.1.mv hal hh, h.2.2.1.mv hal hh, h.2.2.2⟩) (fun r U U' V V' h1 hal h2 h => ⟨h.1, h.2.elim fun B' q => ⟨B', q.1.mv h1 h2, q.2⟩⟩) ?_
  intro p e s m args below meth c s₁ X0 hexec hbytes hml hret hlk hnm hown hh0 W hP
  obtain ⟨rfl, hA, hB, hne, l1, l2, hp⟩ := hP
  have c1 : Steps p.tables e below (s₁.setTop (entryFrame m #[.ref b, .int (Int32.ofNat o), .ref d, .int (Int32.ofNat q), .int (Int32.ofNat len)] 7)) (s₁.setTop (mkF m 0 #[.val (.ref b), .val (.int (Int32.ofNat o)), .val (.ref d), .val (.int (Int32.ofNat q)), .val (.int (Int32.ofNat len)), .unset, .unset] [])) := entry rfl
  have hA0 := hA.1.mv X0.warmed.alike hh0
  have hB0 := hB.mv X0.warmed.alike hh0
  have a31 := hA.1.2.2.2
  have c2 : Steps p.tables e below (s₁.setTop (entryFrame m #[.ref b, .int (Int32.ofNat o), .ref d, .int (Int32.ofNat q), .int (Int32.ofNat len)] 7)) (s₁.setTop (mkF m 3 #[.val (.ref b), .val (.int (Int32.ofNat o)), .val (.ref d), .val (.int (Int32.ofNat q)), .val (.int (Int32.ofNat len)), .val (.int 0), .unset] [])) := c1.trans (by
    refine iconstV X0.here hexec rfl 0 (hb hbytes d0) (by decide) ?_
    refine XS.istore X0.here hexec rfl (hb hbytes d1) rfl rfl ?_
    exact Steps.refl _)
  have loop : ∀ (r i : Nat), i + r = len → ∀ (z : Slot), (z = .unset ∨ ∃ w, z = .val w ∧ w.category = 1) → ∀ (Tl : State) (Bk : Cell), Stand p l e { frames := 0, locals := 0, cells := 0, slots := 0 } s m #[.ref b, .int (Int32.ofNat o), .ref d, .int (Int32.ofNat q), .int (Int32.ofNat len)] below meth c Tl ([] ++ copyLocs d q i) 0 0 → Put d Bk s₁ Tl → Laid B Bk q (q + i) (fun j => Value.int (lo8 (cv A (o + (j - q))))) →
      Steps p.tables e below (s₁.setTop (entryFrame m #[.ref b, .int (Int32.ofNat o), .ref d, .int (Int32.ofNat q), .int (Int32.ofNat len)] 7)) (Tl.setTop (mkF m 3 #[.val (.ref b), .val (.int (Int32.ofNat (o + i))), .val (.ref d), .val (.int (Int32.ofNat (q + i))), .val (.int (Int32.ofNat len)), .val (.int (Int32.ofNat i)), z] [])) → ∃ (T' : State) (B' : Cell) (z' : Slot), Stand p l e { frames := 0, locals := 0, cells := 0, slots := 0 } s m #[.ref b, .int (Int32.ofNat o), .ref d, .int (Int32.ofNat q), .int (Int32.ofNat len)] below meth c T' ([] ++ copyLocs d q len) 0 0 ∧ Put d B' s₁ T' ∧ Laid B B' q (q + len) (fun j => Value.int (lo8 (cv A (o + (j - q))))) ∧
      Steps p.tables e below (s₁.setTop (entryFrame m #[.ref b, .int (Int32.ofNat o), .ref d, .int (Int32.ofNat q), .int (Int32.ofNat len)] 7)) (T'.setTop (mkF m 3 #[.val (.ref b), .val (.int (Int32.ofNat (o + len))), .val (.ref d), .val (.int (Int32.ofNat (q + len))), .val (.int (Int32.ofNat len)), .val (.int (Int32.ofNat len)), z'] [])) := by
    intro r
    induction r with
    | zero =>
      intro i hi z hz Tl Bk Xl pl fl cl
      have hil : i = len := by omega
      rw [hil] at Xl fl cl
      exact ⟨Tl, Bk, z, Xl, pl, fl, cl⟩
    | succ r ih =>
      intro i hi z hz Tl Bk Xl pl fl cl
      have all := X0.warmed.alike.symm.trans Xl.warmed.alike
      have hAl := hA0.keep all (pl.other hne hA0.1)
      have hBk := hB0.like all pl.1 fl.1 fl.2.1 fl.2.2.1
      have hlt : q + i < Bk.slots.size := by rw [fl.2.2.1]; omega
      have c3 : Steps p.tables e below (s₁.setTop (entryFrame m #[.ref b, .int (Int32.ofNat o), .ref d, .int (Int32.ofNat q), .int (Int32.ofNat len)] 7)) (Tl.setTop (mkF m 12 #[.val (.ref b), .val (.int (Int32.ofNat (o + i))), .val (.ref d), .val (.int (Int32.ofNat (q + i))), .val (.int (Int32.ofNat len)), .val (.int (Int32.ofNat i)), z] [.int (Int32.ofNat (o + i)), .ref b])) := cl.trans (by
        refine XS.iload Xl.here hexec rfl (hb hbytes d3) rfl ?_
        refine XS.iload Xl.here hexec rfl (hb hbytes d5) rfl ?_
        refine XS.icmpNo Xl.here hexec rfl (hb hbytes d7) rfl (ii_ge_f (lt32 (by omega) (by omega))) ?_
        refine XS.aloadN Xl.here hexec rfl (hb hbytes d10) rfl rfl ?_
        refine XS.iloadN Xl.here hexec rfl (hb hbytes d11) rfl ?_
        exact Steps.refl _)
      have c4 : Steps p.tables e below (s₁.setTop (entryFrame m #[.ref b, .int (Int32.ofNat o), .ref d, .int (Int32.ofNat q), .int (Int32.ofNat len)] 7)) (Tl.setTop (mkF m 13 #[.val (.ref b), .val (.int (Int32.ofNat (o + i))), .val (.ref d), .val (.int (Int32.ofNat (q + i))), .val (.int (Int32.ofNat len)), .val (.int (Int32.ofNat i)), z] [.int (cv A (o + i))])) := c3.trans (by
        refine Xl.aget hexec hAl rfl (hA.get (i := o + i) (by omega)) rfl rfl (hb hbytes d12) ?_
        exact Steps.refl _)
      have c5 : Steps p.tables e below (s₁.setTop (entryFrame m #[.ref b, .int (Int32.ofNat o), .ref d, .int (Int32.ofNat q), .int (Int32.ofNat len)] 7)) (Tl.setTop (mkF m 15 #[.val (.ref b), .val (.int (Int32.ofNat (o + i))), .val (.ref d), .val (.int (Int32.ofNat (q + i))), .val (.int (Int32.ofNat len)), .val (.int (Int32.ofNat i)), .val (.int (cv A (o + i)))] [])) := c4.trans (by
        refine XS.istoreS Xl.here hexec rfl (hb hbytes d13) rfl rfl hz ?_
        exact Steps.refl _)
      have c6 : Steps p.tables e below (s₁.setTop (entryFrame m #[.ref b, .int (Int32.ofNat o), .ref d, .int (Int32.ofNat q), .int (Int32.ofNat len)] 7)) (Tl.setTop (mkF m 31 #[.val (.ref b), .val (.int (Int32.ofNat (o + i))), .val (.ref d), .val (.int (Int32.ofNat (q + i))), .val (.int (Int32.ofNat len)), .val (.int (Int32.ofNat i)), .val (.int (cv A (o + i)))] [.int (lo8 (cv A (o + i))), .int (Int32.ofNat (q + i)), .ref d])) := c5.trans (by
        refine XS.iload Xl.here hexec rfl (hb hbytes d15) rfl ?_
        refine sipushV Xl.here hexec rfl 255 (hb hbytes d17) (by decide) ?_
        refine XS.icmpYes Xl.here hexec rfl (pc0 := 20) rfl (hb hbytes d20) rfl (ii_le_t (hp i (by omega))) (by decide) rfl ?_
        refine XS.aloadN Xl.here hexec rfl (hb hbytes d26) rfl rfl ?_
        refine XS.iloadN Xl.here hexec rfl (hb hbytes d27) rfl ?_
        refine XS.iload Xl.here hexec rfl (hb hbytes d28) rfl ?_
        refine i2b Xl.here hexec rfl (hb hbytes d30) rfl ?_
        exact Steps.refl _)
      obtain ⟨T7, X7, p7, st7⟩ := Xl.aput hexec hBk rfl hlt rfl (fits_lo8 (cv A (o + i))) (g := (mkF m 31 #[.val (.ref b), .val (.int (Int32.ofNat (o + i))), .val (.ref d), .val (.int (Int32.ofNat (q + i))), .val (.int (Int32.ofNat len)), .val (.int (Int32.ofNat i)), .val (.int (cv A (o + i)))] [.int (lo8 (cv A (o + i))), .int (Int32.ofNat (q + i)), .ref d])) rfl (rest := []) rfl (hb hbytes d31)
      have c8 : Steps p.tables e below (s₁.setTop (entryFrame m #[.ref b, .int (Int32.ofNat o), .ref d, .int (Int32.ofNat q), .int (Int32.ofNat len)] 7)) (T7.setTop (mkF m 32 #[.val (.ref b), .val (.int (Int32.ofNat (o + i))), .val (.ref d), .val (.int (Int32.ofNat (q + i))), .val (.int (Int32.ofNat len)), .val (.int (Int32.ofNat i)), .val (.int (cv A (o + i)))] [])) := c6.trans (st7 _ (Steps.refl _))
      have c9 : Steps p.tables e below (s₁.setTop (entryFrame m #[.ref b, .int (Int32.ofNat o), .ref d, .int (Int32.ofNat q), .int (Int32.ofNat len)] 7)) (T7.setTop (mkF m 3 #[.val (.ref b), .val (.int (Int32.ofNat (o + i) + 1)), .val (.ref d), .val (.int (Int32.ofNat (q + i) + 1)), .val (.int (Int32.ofNat len)), .val (.int (Int32.ofNat i + 1)), .val (.int (cv A (o + i)))] [])) := c8.trans (by
        refine iincV X7.here hexec rfl 1 (hb hbytes d32) (by decide) rfl rfl ?_
        refine iincV X7.here hexec rfl 1 (hb hbytes d35) (by decide) rfl rfl ?_
        refine iincV X7.here hexec rfl 1 (hb hbytes d38) (by decide) rfl rfl ?_
        refine XS.goto X7.here hexec rfl (pc0 := 41) rfl (hb hbytes d41) (by decide) rfl ?_
        exact Steps.refl _)
      have c10 : Steps p.tables e below (s₁.setTop (entryFrame m #[.ref b, .int (Int32.ofNat o), .ref d, .int (Int32.ofNat q), .int (Int32.ofNat len)] 7)) (T7.setTop (mkF m 3 #[.val (.ref b), .val (.int (Int32.ofNat (o + (i + 1)))), .val (.ref d), .val (.int (Int32.ofNat (q + (i + 1)))), .val (.int (Int32.ofNat len)), .val (.int (Int32.ofNat (i + 1))), .val (.int (cv A (o + i)))] [])) := by
        have := c9
        rw [succ32, succ32, succ32] at this
        exact this
      exact ih (i + 1) (by omega) _ (Or.inr ⟨_, rfl, rfl⟩) T7 _ (by rw [copyLocs_step, ← List.append_assoc]; exact X7) (pl.trans p7) (fl.step (by omega) hlt (by simp)) c10
  obtain ⟨T9, B9, z9, X9, p9, f9, g9⟩ := loop len 0 (by omega) .unset (Or.inl rfl) s₁ B (by simpa [copyLocs] using X0) ⟨hB0.1, fun _ _ => rfl, rfl⟩ (Laid.zero _ _ _) c2
  have c11 : Steps p.tables e below (s₁.setTop (entryFrame m #[.ref b, .int (Int32.ofNat o), .ref d, .int (Int32.ofNat q), .int (Int32.ofNat len)] 7)) (T9.setTop (mkF m 46 #[.val (.ref b), .val (.int (Int32.ofNat (o + len))), .val (.ref d), .val (.int (Int32.ofNat (q + len))), .val (.int (Int32.ofNat len)), .val (.int (Int32.ofNat len)), z9] [.int (Int32.ofNat len)])) := g9.trans (by
    refine XS.iload X9.here hexec rfl (hb hbytes d3) rfl ?_
    refine XS.iload X9.here hexec rfl (hb hbytes d5) rfl ?_
    refine XS.icmpYes X9.here hexec rfl (pc0 := 7) rfl (hb hbytes d7) rfl (ii_ge_t (nlt32 (by omega) (Nat.le_refl _))) (by decide) rfl ?_
    refine XS.iload X9.here hexec rfl (hb hbytes d44) rfl ?_
    exact Steps.refl _)
  exact ⟨T9, some (.int (Int32.ofNat len)), _, _, _, X9, by simp, rfl, rfl, (fun h => by cases h), ⟨rfl, B9, p9.from hh0, f9⟩, fun fs hl => c11.trans (X9.ireturnOut hexec hret rfl (Or.inl rfl) (hb hbytes d46) hl)⟩
end Cmp5
namespace Cmp3
def yN : MethodName := ⟨"java/lang/StringUTF16", "compress", "([CII)[B"⟩
abbrev yB : ByteArray := jdk_52_method_16_code
theorem d0 : decode yB 0 = .ok (.iload_n 2, 1) := by decide +kernel
theorem d1 : decode yB 1 = .ok (.newarray .byte, 2) := by decide +kernel
theorem d3 : decode yB 3 = .ok (.astore_n 3, 1) := by decide +kernel
theorem d4 : decode yB 4 = .ok (.aload_n 0, 1) := by decide +kernel
theorem d5 : decode yB 5 = .ok (.iload_n 1, 1) := by decide +kernel
theorem d6 : decode yB 6 = .ok (.aload_n 3, 1) := by decide +kernel
theorem d7 : decode yB 7 = .ok (.iconst 0, 1) := by decide +kernel
theorem d8 : decode yB 8 = .ok (.iload_n 2, 1) := by decide +kernel
theorem d9 : decode yB 9 = .ok (.invokestatic 115, 3) := by decide +kernel
theorem d12 : decode yB 12 = .ok (.istore 4, 2) := by decide +kernel
theorem d14 : decode yB 14 = .ok (.iload 4, 2) := by decide +kernel
theorem d16 : decode yB 16 = .ok (.iload_n 2, 1) := by decide +kernel
theorem d17 : decode yB 17 = .ok (.if_icmp (.eq) 40, 3) := by decide +kernel
theorem d57 : decode yB 57 = .ok (.aload_n 3, 1) := by decide +kernel
theorem d58 : decode yB 58 = .ok (.areturn, 1) := by decide +kernel
def site : List Cond := [.arrayClass .byte, Cmp5.tab] ++ staticW U16 115 Cmp5.yN
def tab : Cond := tabOf yN yB 6 (some (.array .byte)) site
def P (b : Addr) (A : Cell) (o len : Nat) (args : Array Value) (s : State) : Prop := args = #[.ref b, .int (Int32.ofNat o), .int (Int32.ofNat len)] ∧ Ch b A s ∧ o + len ≤ A.slots.size ∧ len ≤ 536870912 ∧ ∀ i, i < len → ¬ 255 < cv A (o + i)
def E (b : Addr) (A : Cell) (o len : Nat) (r : Option Value) (s u : State) : Prop := NewArr .byte "[B" len (fun j => .int (lo8 (cv A (o + j)))) r s u ∧ u.heap.size = s.heap.size + 1
/-- no char of the range above 255: a new byte[] of their low bytes -/
theorem law (l : Launch) (b : Addr) (A : Cell) (o len : Nat) : Law l yN 3 3 1 18 yB 6 (some (.array .byte)) site (P b A o len) (E b A o len) [] 1 len := by
  refine Law.of_walk (plainFor_of_name (by decide +kernel)) (by decide +kernel) (by decide +kernel) (by decide) (fun _ _ h => by rw [h.1]; rfl) (fun _ U U' hal hh h => ⟨h.1, h.2.1.mv hal hh, h.2.2⟩) (fun r U U' V V' h1 hal h2 h => ⟨NewArr.mv r U U' V V' h1 hal h2 h.1, by rw [h1, h2]; exact h.2⟩) ?_
  intro p e s m args below meth c s₁ X0 hexec hbytes hml hret hlk hnm hown hh0 W hP
  obtain ⟨rfl, hA, l1, l2, hp⟩ := hP
  have a31 := hA.1.2.2.2
  have c1 : Steps p.tables e below (s₁.setTop (entryFrame m #[.ref b, .int (Int32.ofNat o), .int (Int32.ofNat len)] 6)) (s₁.setTop (mkF m 0 #[.val (.ref b), .val (.int (Int32.ofNat o)), .val (.int (Int32.ofNat len)), .unset, .unset, .unset] [])) := entry rfl
  have c2 : Steps p.tables e below (s₁.setTop (entryFrame m #[.ref b, .int (Int32.ofNat o), .int (Int32.ofNat len)] 6)) (s₁.setTop (mkF m 1 #[.val (.ref b), .val (.int (Int32.ofNat o)), .val (.int (Int32.ofNat len)), .unset, .unset, .unset] [.int (Int32.ofNat len)])) := c1.trans (by
    refine XS.iloadN X0.here hexec rfl (hb hbytes d0) rfl ?_
    exact Steps.refl _)
  obtain ⟨T3, B3, X3, ba3, bs3, bv3, bh3, bf3, st3⟩ := X0.anew hexec (atype := .byte) (wk W (.arrayClass .byte)) rfl (by show len * 1 ≤ _; omega) (by omega) (g := (mkF m 1 #[.val (.ref b), .val (.int (Int32.ofNat o)), .val (.int (Int32.ofNat len)), .unset, .unset, .unset] [.int (Int32.ofNat len)])) rfl (hb hbytes d1) (rest := []) rfl (Nat.le_refl _) (by show 0 + len ≤ len; omega)
  rw [hh0] at ba3 st3
  have kp3 : XT.Kept s T3 := (XT.Kept.of_eq hh0).push bh3
  have hA3 := hA.keep X3.warmed.alike (kp3 _ _ hA.1.1)
  have hne : b ≠ s.heap.size := hA.1.ne
  have c4 : Steps p.tables e below (s₁.setTop (entryFrame m #[.ref b, .int (Int32.ofNat o), .int (Int32.ofNat len)] 6)) (T3.setTop (mkF m 3 #[.val (.ref b), .val (.int (Int32.ofNat o)), .val (.int (Int32.ofNat len)), .unset, .unset, .unset] [.ref s.heap.size])) := c2.trans (st3 _ (Steps.refl _))
  have c5 : Steps p.tables e below (s₁.setTop (entryFrame m #[.ref b, .int (Int32.ofNat o), .int (Int32.ofNat len)] 6)) (T3.setTop (mkF m 9 #[.val (.ref b), .val (.int (Int32.ofNat o)), .val (.int (Int32.ofNat len)), .val (.ref s.heap.size), .unset, .unset] [.int (Int32.ofNat len), .int 0, .ref s.heap.size, .int (Int32.ofNat o), .ref b])) := c4.trans (by
    refine XS.astoreN X3.here hexec rfl (hb hbytes d3) rfl rfl rfl ?_
    refine XS.aloadN X3.here hexec rfl (hb hbytes d4) rfl rfl ?_
    refine XS.iloadN X3.here hexec rfl (hb hbytes d5) rfl ?_
    refine XS.aloadN X3.here hexec rfl (hb hbytes d6) rfl rfl ?_
    refine iconstV X3.here hexec rfl 0 (hb hbytes d7) (by decide) ?_
    refine XS.iloadN X3.here hexec rfl (hb hbytes d8) rfl ?_
    exact Steps.refl _)
  obtain ⟨v6, T6, X6, E6, g6⟩ := X3.callS hexec (Cmp5.law l b A s.heap.size B3 o 0 len) hown (wks W (staticW U16 115 Cmp5.yN)) (wk W Cmp5.tab) (W := 0) (Nat.le_of_ble_eq_true rfl) (Nat.le_of_ble_eq_true rfl) (Nat.le_refl _) (by show 0 + len + 0 ≤ len; omega) (g := (mkF m 9 #[.val (.ref b), .val (.int (Int32.ofNat o)), .val (.int (Int32.ofNat len)), .val (.ref s.heap.size), .unset, .unset] [.int (Int32.ofNat len), .int (Int32.ofNat 0), .ref s.heap.size, .int (Int32.ofNat o), .ref b])) rfl (by rw [hml]; rfl) c5 (argsL := [.ref b, .int (Int32.ofNat o), .ref s.heap.size, .int (Int32.ofNat 0), .int (Int32.ofNat len)]) (rest := []) rfl rfl (by show 2 * 0 + 0 ≤ _; decide) (hb hbytes d9) (⟨rfl, hA3, ba3, hne, l1, by rw [bs3]; simp, hp⟩)
  obtain ⟨rfl, B6, p6, f6⟩ := E6
  have c7 : Steps p.tables e below (s₁.setTop (entryFrame m #[.ref b, .int (Int32.ofNat o), .int (Int32.ofNat len)] 6)) (T6.setTop (mkF m 12 #[.val (.ref b), .val (.int (Int32.ofNat o)), .val (.int (Int32.ofNat len)), .val (.ref s.heap.size), .unset, .unset] [.int (Int32.ofNat len)])) := g6
  have c8 : Steps p.tables e below (s₁.setTop (entryFrame m #[.ref b, .int (Int32.ofNat o), .int (Int32.ofNat len)] 6)) (T6.setTop (mkF m 58 #[.val (.ref b), .val (.int (Int32.ofNat o)), .val (.int (Int32.ofNat len)), .val (.ref s.heap.size), .val (.int (Int32.ofNat len)), .unset] [.ref s.heap.size])) := c7.trans (by
    refine XS.istore X6.here hexec rfl (hb hbytes d12) rfl rfl ?_
    refine XS.iload X6.here hexec rfl (hb hbytes d14) rfl ?_
    refine XS.iloadN X6.here hexec rfl (hb hbytes d16) rfl ?_
    refine XS.icmpYes X6.here hexec rfl (pc0 := 17) rfl (hb hbytes d17) rfl (ii_eq_t rfl) (by decide) rfl ?_
    refine XS.aloadN X6.here hexec rfl (hb hbytes d57) rfl rfl ?_
    exact Steps.refl _)
  have X8 := X6.wide (L' := []) (cells' := 1) (slots' := len) (fun x hx hlt => by
    simp only [List.nil_append, copyLocs, List.mem_map, List.mem_range] at hx
    obtain ⟨i, -, rfl⟩ := hx
    exact absurd hlt (Nat.lt_irrefl _)) (Nat.le_refl _) (by omega)
  exact ⟨T6, some (.ref s.heap.size), _, _, _, X8, rfl, rfl, rfl, (fun h => by cases h), ⟨⟨rfl, B6, ba3.like (X3.warmed.alike.symm.trans X6.warmed.alike) p6.1 f6.1 f6.2.1 f6.2.2.1, f6.2.1.trans bv3, by rw [X6.warmed.alike.findClass, f6.1]; exact bf3, by rw [f6.2.2.1, bs3]; simp, fun j hj => by rw [f6.2.2.2 j, if_pos (by omega)]; rfl, kp3.put p6 (Nat.le_refl _)⟩, by rw [p6.2.2, bh3, hh0]; simp⟩, fun fs hl => c8.trans (X8.areturnOut hexec rfl hret rfl (hb hbytes d58) hl)⟩
end Cmp3
namespace CodL
def yN : MethodName := ⟨"java/lang/StringUTF16", "coderFromArrayLen", "([BI)B"⟩
abbrev yB : ByteArray := jdk_52_method_15_code
theorem d0 : decode yB 0 = .ok (.iload_n 1, 1) := by decide +kernel
theorem d1 : decode yB 1 = .ok (.aload_n 0, 1) := by decide +kernel
theorem d2 : decode yB 2 = .ok (.arraylength, 1) := by decide +kernel
theorem d3 : decode yB 3 = .ok (.isub, 1) := by decide +kernel
theorem d4 : decode yB 4 = .ok (.bipush 31, 2) := by decide +kernel
theorem d6 : decode yB 6 = .ok (.iushr, 1) := by decide +kernel
theorem d7 : decode yB 7 = .ok (.i2b, 1) := by decide +kernel
theorem d8 : decode yB 8 = .ok (.ireturn, 1) := by decide +kernel
def site : List Cond := []
def tab : Cond := tabOf yN yB 2 (some .byte) site
def P (d : Addr) (B : Cell) (args : Array Value) (s : State) : Prop := args = #[.ref d, .int (Int32.ofNat B.slots.size)] ∧ Arr .byte d B s
def E (r : Option Value) (s u : State) : Prop := XT.PureE (some (.int 0)) r s u
/-- an array as long as the number of chars: LATIN1 -/
theorem law (l : Launch) (d : Addr) (B : Cell) : Law l yN 2 2 0 0 yB 2 (some .byte) site (P d B) E [] 0 0 := by
  refine Law.of_walk (plainFor_of_name (by decide +kernel)) (by decide +kernel) (by decide +kernel) (by decide) (fun _ _ h => by rw [h.1]; rfl) (fun _ U U' hal hh h => ⟨h.1, h.2.mv hal hh⟩) (fun r U U' V V' h1 hal h2 h => XT.PureE.mv r U U' V V' h1 hal h2 h) ?_
  intro p e s m args below meth c s₁ X0 hexec hbytes hml hret hlk hnm hown hh0 W hP
  obtain ⟨rfl, hB⟩ := hP
  have hB0 := hB.mv X0.warmed.alike hh0
  have c1 : Steps p.tables e below (s₁.setTop (entryFrame m #[.ref d, .int (Int32.ofNat B.slots.size)] 2)) (s₁.setTop (mkF m 0 #[.val (.ref d), .val (.int (Int32.ofNat B.slots.size))] [])) := entry rfl
  have c2 : Steps p.tables e below (s₁.setTop (entryFrame m #[.ref d, .int (Int32.ofNat B.slots.size)] 2)) (s₁.setTop (mkF m 2 #[.val (.ref d), .val (.int (Int32.ofNat B.slots.size))] [.ref d, .int (Int32.ofNat B.slots.size)])) := c1.trans (by
    refine XS.iloadN X0.here hexec rfl (hb hbytes d0) rfl ?_
    refine XS.aloadN X0.here hexec rfl (hb hbytes d1) rfl rfl ?_
    exact Steps.refl _)
  have c3 : Steps p.tables e below (s₁.setTop (entryFrame m #[.ref d, .int (Int32.ofNat B.slots.size)] 2)) (s₁.setTop (mkF m 8 #[.val (.ref d), .val (.int (Int32.ofNat B.slots.size))] [.int (lo8 (ushr (Int32.ofNat B.slots.size - Int32.ofNat B.slots.size) 31))])) := c2.trans (by
    refine X0.alen hexec hB0 rfl rfl (hb hbytes d2) ?_
    refine XS.isub X0.here hexec rfl (hb hbytes d3) rfl ?_
    refine bipushV X0.here hexec rfl 31 (hb hbytes d4) (by decide) ?_
    refine iushr X0.here hexec rfl (hb hbytes d6) rfl ?_
    refine i2b X0.here hexec rfl (hb hbytes d7) rfl ?_
    exact Steps.refl _)
  have e0 : lo8 (ushr (Int32.ofNat B.slots.size - Int32.ofNat B.slots.size) 31) = 0 := by rw [Int32.sub_self]; decide
  rw [e0] at c3
  exact ⟨s₁, some (.int 0), _, _, _, X0, rfl, rfl, rfl, (fun h => by cases h), ⟨rfl, hh0⟩, fun fs hl => c3.trans (X0.ireturnOut hexec hret rfl (Or.inr (Or.inr (Or.inl rfl))) (hb hbytes d8) hl)⟩
end CodL
/-- the String at a is Latin-1 over a new byte[] (the heap's one new cell): the low bytes of the len chars of A from o on; every cell but a is kept -/
def Got (a : Addr) (D : Cell) (fV fC : Field) (A : Cell) (o len : Nat) (r : Option Value) (s u : State) : Prop := r = none ∧ ∃ D' V : Cell, Blank "java/lang/String" a D' u ∧ Same D D' [fV.slot, fC.slot] ∧ D'.slots[fV.slot]? = some (.ref s.heap.size) ∧ D'.slots[fC.slot]? = some (.int 0) ∧ Arr .byte s.heap.size V u ∧ V.vm = .none ∧ u.vm.findClass "[B" = some V.cls ∧ V.slots.size = len ∧ (∀ j, j < len → V.slots[j]? = some (.int (lo8 (cv A (o + j))))) ∧ (∀ (y : Addr) (c : Cell), y ≠ a → s.heap[y]? = some c → u.heap[y]? = some c) ∧ u.heap.size = s.heap.size + 1
theorem Got.mv {a : Addr} {D A : Cell} {fV fC : Field} {o len : Nat} : ∀ r (U U' V V' : State), U'.heap = U.heap → V.vm.Alike V'.vm → V'.heap = V.heap → Got a D fV fC A o len r U V → Got a D fV fC A o len r U' V' :=
  fun r U U' V V' h1 hal h2 ⟨e0, D', X, a1, a2, a3, a4, a5, a6, a7, a8, a9, a10, a11⟩ => ⟨e0, D', X, a1.mv hal h2, a2, by rw [h1]; exact a3, a4, by rw [h1]; exact a5.mv hal h2, a6, by rw [hal.findClass]; exact a7, a8, a9, by rw [h1, h2]; exact a10, by rw [h1, h2]; exact a11⟩
namespace New4
def yN : MethodName := ⟨"java/lang/String", "<init>", "([CIILjava/lang/Void;)V"⟩
abbrev yB : ByteArray := jdk_42_method_149_code
theorem d0 : decode yB 0 = .ok (.aload_n 0, 1) := by decide +kernel
theorem d1 : decode yB 1 = .ok (.invokespecial 1, 3) := by decide +kernel
theorem d4 : decode yB 4 = .ok (.iload_n 3, 1) := by decide +kernel
theorem d5 : decode yB 5 = .ok (.ifCond (.ne) 22, 3) := by decide +kernel
theorem d27 : decode yB 27 = .ok (.getstatic 38, 3) := by decide +kernel
theorem d30 : decode yB 30 = .ok (.ifCond (.eq) 28, 3) := by decide +kernel
theorem d33 : decode yB 33 = .ok (.aload_n 1, 1) := by decide +kernel
theorem d34 : decode yB 34 = .ok (.iload_n 2, 1) := by decide +kernel
theorem d35 : decode yB 35 = .ok (.iload_n 3, 1) := by decide +kernel
theorem d36 : decode yB 36 = .ok (.invokestatic 177, 3) := by decide +kernel
theorem d39 : decode yB 39 = .ok (.astore 5, 2) := by decide +kernel
theorem d41 : decode yB 41 = .ok (.aload_n 0, 1) := by decide +kernel
theorem d42 : decode yB 42 = .ok (.aload 5, 2) := by decide +kernel
theorem d44 : decode yB 44 = .ok (.iload_n 3, 1) := by decide +kernel
theorem d45 : decode yB 45 = .ok (.invokestatic 47, 3) := by decide +kernel
theorem d48 : decode yB 48 = .ok (.putfield 15, 3) := by decide +kernel
theorem d51 : decode yB 51 = .ok (.aload_n 0, 1) := by decide +kernel
theorem d52 : decode yB 52 = .ok (.aload 5, 2) := by decide +kernel
theorem d54 : decode yB 54 = .ok (.putfield 9, 3) := by decide +kernel
theorem d57 : decode yB 57 = .ok (.return_, 1) := by decide +kernel
def site : List Cond := [.fieldLink "java/lang/String" 38 "java/lang/String" "COMPACT_STRINGS" "Z", Cmp3.tab, CodL.tab, .laysFinal "java/lang/String" "java/lang/String" "value" "[B", .fieldLink "java/lang/String" 9 "java/lang/String" "value" "[B", .laysFinal "java/lang/String" "java/lang/String" "coder" "B", .fieldLink "java/lang/String" 15 "java/lang/String" "coder" "B"] ++ objW "java/lang/String" 1 ++ staticW "java/lang/String" 177 Cmp3.yN ++ staticW "java/lang/String" 47 CodL.yN
def tab : Cond := tabOf yN yB 6 none site
def P (a : Addr) (D : Cell) (fV fC : Field) (b : Addr) (A : Cell) (z : Int32) (o len : Nat) (args : Array Value) (s : State) : Prop := args = #[.ref a, .ref b, .int (Int32.ofNat o), .int (Int32.ofNat len), .null] ∧ Blank "java/lang/String" a D s ∧ Found "java/lang/String" "value" "[B" fV s ∧ Found "java/lang/String" "coder" "B" fC s ∧ Ch b A s ∧ StaticIs s "java/lang/String" "COMPACT_STRINGS" "Z" (.int z) ∧ ¬ z = 0 ∧ 0 < len ∧ o + len ≤ A.slots.size ∧ len ≤ 536870912 ∧ ∀ i, i < len → ¬ 255 < cv A (o + i)
def E (a : Addr) (D : Cell) (fV fC : Field) (A : Cell) (o len : Nat) (r : Option Value) (s u : State) : Prop := Got a D fV fC A o len r s u
/-- len > 0, no char of the range above 255: a Latin-1 String of their low bytes -/
theorem law (l : Launch) (a : Addr) (D : Cell) (fV fC : Field) (b : Addr) (A : Cell) (z : Int32) (o len : Nat) : Law l yN 5 4 2 35 yB 6 none site (P a D fV fC b A z o len) (E a D fV fC A o len) [⟨a, fC.slot⟩, ⟨a, fV.slot⟩] 1 len := by
  refine Law.of_walk (plainFor_of_name (by decide +kernel)) (by decide +kernel) (by decide +kernel) (by decide) (fun _ _ h => by rw [h.1]; rfl) (fun _ U U' hal hh h => ⟨h.1, h.2.1.mv hal hh, h.2.2.1.al hal, h.2.2.2.1.al hal, h.2.2.2.2.1.mv hal hh, h.2.2.2.2.2.1.there hal hh, h.2.2.2.2.2.2⟩) (fun r U U' V V' h1 hal h2 h => Got.mv r U U' V V' h1 hal h2 h) ?_
  intro p e s m args below meth c s₁ X0 hexec hbytes hml hret hlk hnm hown hh0 W hP
  obtain ⟨rfl, hB, f1, f2, hA, s1, hz, l0, l1, l2, hp⟩ := hP
  have a31 := hA.1.2.2.2
  have c1 : Steps p.tables e below (s₁.setTop (entryFrame m #[.ref a, .ref b, .int (Int32.ofNat o), .int (Int32.ofNat len), .null] 6)) (s₁.setTop (mkF m 0 #[.val (.ref a), .val (.ref b), .val (.int (Int32.ofNat o)), .val (.int (Int32.ofNat len)), .val .null, .unset] [])) := entry rfl
  have c2 : Steps p.tables e below (s₁.setTop (entryFrame m #[.ref a, .ref b, .int (Int32.ofNat o), .int (Int32.ofNat len), .null] 6)) (s₁.setTop (mkF m 1 #[.val (.ref a), .val (.ref b), .val (.int (Int32.ofNat o)), .val (.int (Int32.ofNat len)), .val .null, .unset] [.ref a])) := c1.trans (by
    refine XS.aloadN X0.here hexec rfl (hb hbytes d0) rfl rfl ?_
    exact Steps.refl _)
  obtain ⟨T3, X3, q3, st3⟩ := X0.oinit hexec hown (wks W (objW "java/lang/String" 1)) (g := (mkF m 1 #[.val (.ref a), .val (.ref b), .val (.int (Int32.ofNat o)), .val (.int (Int32.ofNat len)), .val .null, .unset] [.ref a])) rfl (by rw [hml]; rfl) (rest := []) rfl (hb hbytes d1) (W := 0) (by show 2 * 0 + 0 ≤ _; decide) (Nat.le_of_ble_eq_true rfl) (Nat.le_of_ble_eq_true rfl)
  have hh3 := q3.trans hh0
  have c4 : Steps p.tables e below (s₁.setTop (entryFrame m #[.ref a, .ref b, .int (Int32.ofNat o), .int (Int32.ofNat len), .null] 6)) (T3.setTop (mkF m 27 #[.val (.ref a), .val (.ref b), .val (.int (Int32.ofNat o)), .val (.int (Int32.ofNat len)), .val .null, .unset] [])) := (c2.trans (st3 _ (Steps.refl _))).trans (by
    refine XS.iloadN X3.here hexec rfl (hb hbytes d4) rfl ?_
    refine XS.ifYes X3.here hexec rfl (pc0 := 5) rfl (hb hbytes d5) rfl (i0_ne_t (nz32 (by omega) l0)) (by decide) rfl ?_
    exact Steps.refl _)
  obtain ⟨T5, X5, q5, st5⟩ := X3.sget hexec hown (wk W (.fieldLink "java/lang/String" 38 "java/lang/String" "COMPACT_STRINGS" "Z")) s1 (fun _ _ h => by rw [hh3]; exact h) (g := (mkF m 27 #[.val (.ref a), .val (.ref b), .val (.int (Int32.ofNat o)), .val (.int (Int32.ofNat len)), .val .null, .unset] [])) rfl (hb hbytes d27)
  have hh5 := q5.trans hh3
  have c6 : Steps p.tables e below (s₁.setTop (entryFrame m #[.ref a, .ref b, .int (Int32.ofNat o), .int (Int32.ofNat len), .null] 6)) (T5.setTop (mkF m 30 #[.val (.ref a), .val (.ref b), .val (.int (Int32.ofNat o)), .val (.int (Int32.ofNat len)), .val .null, .unset] [.int z])) := c4.trans (st5 _ (Steps.refl _))
  have c7 : Steps p.tables e below (s₁.setTop (entryFrame m #[.ref a, .ref b, .int (Int32.ofNat o), .int (Int32.ofNat len), .null] 6)) (T5.setTop (mkF m 36 #[.val (.ref a), .val (.ref b), .val (.int (Int32.ofNat o)), .val (.int (Int32.ofNat len)), .val .null, .unset] [.int (Int32.ofNat len), .int (Int32.ofNat o), .ref b])) := c6.trans (by
    refine XS.ifNo X5.here hexec rfl (hb hbytes d30) rfl (i0_eq_f hz) ?_
    refine XS.aloadN X5.here hexec rfl (hb hbytes d33) rfl rfl ?_
    refine XS.iloadN X5.here hexec rfl (hb hbytes d34) rfl ?_
    refine XS.iloadN X5.here hexec rfl (hb hbytes d35) rfl ?_
    exact Steps.refl _)
  obtain ⟨v8, T8, X8, E8, g8⟩ := X5.callS hexec (Cmp3.law l b A o len) hown (wks W (staticW "java/lang/String" 177 Cmp3.yN)) (wk W Cmp3.tab) (W := 0) (Nat.le_of_ble_eq_true rfl) (Nat.le_of_ble_eq_true rfl) (Nat.le_refl _) (by show 0 + len ≤ len; omega) (g := (mkF m 36 #[.val (.ref a), .val (.ref b), .val (.int (Int32.ofNat o)), .val (.int (Int32.ofNat len)), .val .null, .unset] [.int (Int32.ofNat len), .int (Int32.ofNat o), .ref b])) rfl (by rw [hml]; rfl) c7 (argsL := [.ref b, .int (Int32.ofNat o), .int (Int32.ofNat len)]) (rest := []) rfl rfl (by show 2 * 0 + 0 ≤ _; decide) (hb hbytes d36) (⟨rfl, hA.mv X5.warmed.alike hh5, l1, l2, hp⟩)
  obtain ⟨e8, z8⟩ := E8
  obtain ⟨rfl, N, n1, n2, n3, n4, n5, n6⟩ := NewArr.mv _ T5 s _ _ hh5.symm (Vm.Alike.refl _) rfl e8
  rw [hh5] at z8
  have hB1 := hB.keep X8.warmed.alike (n6 _ _ hB.1)
  have hne : s.heap.size ≠ a := (Nat.ne_of_lt (Array.getElem?_eq_some_iff.mp hB.1).1).symm
  have c9 : Steps p.tables e below (s₁.setTop (entryFrame m #[.ref a, .ref b, .int (Int32.ofNat o), .int (Int32.ofNat len), .null] 6)) (T8.setTop (mkF m 39 #[.val (.ref a), .val (.ref b), .val (.int (Int32.ofNat o)), .val (.int (Int32.ofNat len)), .val .null, .unset] [.ref s.heap.size])) := g8
  have c10 : Steps p.tables e below (s₁.setTop (entryFrame m #[.ref a, .ref b, .int (Int32.ofNat o), .int (Int32.ofNat len), .null] 6)) (T8.setTop (mkF m 45 #[.val (.ref a), .val (.ref b), .val (.int (Int32.ofNat o)), .val (.int (Int32.ofNat len)), .val .null, .val (.ref s.heap.size)] [.int (Int32.ofNat N.slots.size), .ref s.heap.size, .ref a])) := by
    have hc : Steps p.tables e below (s₁.setTop (entryFrame m #[.ref a, .ref b, .int (Int32.ofNat o), .int (Int32.ofNat len), .null] 6)) (T8.setTop (mkF m 45 #[.val (.ref a), .val (.ref b), .val (.int (Int32.ofNat o)), .val (.int (Int32.ofNat len)), .val .null, .val (.ref s.heap.size)] [.int (Int32.ofNat len), .ref s.heap.size, .ref a])) := c9.trans (by
      refine XS.astore X8.here hexec rfl (hb hbytes d39) rfl rfl rfl ?_
      refine XS.aloadN X8.here hexec rfl (hb hbytes d41) rfl rfl ?_
      refine XS.aload X8.here hexec rfl (hb hbytes d42) rfl rfl ?_
      refine XS.iloadN X8.here hexec rfl (hb hbytes d44) rfl ?_
      exact Steps.refl _)
    rw [n4]; exact hc
  obtain ⟨v11, T11, X11, E11, g11⟩ := X8.callS hexec (CodL.law l s.heap.size N) hown (wks W (staticW "java/lang/String" 47 CodL.yN)) (wk W CodL.tab) (W := 1) (Nat.le_of_ble_eq_true rfl) (Nat.le_of_ble_eq_true rfl) (Nat.le_refl _) (by show 0 + len + 0 ≤ len; omega) (g := (mkF m 45 #[.val (.ref a), .val (.ref b), .val (.int (Int32.ofNat o)), .val (.int (Int32.ofNat len)), .val .null, .val (.ref s.heap.size)] [.int (Int32.ofNat N.slots.size), .ref s.heap.size, .ref a])) rfl (by rw [hml]; rfl) c10 (argsL := [.ref s.heap.size, .int (Int32.ofNat N.slots.size)]) (rest := [.ref a]) rfl rfl (by show 2 * 0 + (1 + 0) ≤ _; decide) (hb hbytes d45) (⟨rfl, n1⟩)
  obtain ⟨rfl, q11⟩ := E11
  have hB11 := hB1.mv (X8.warmed.alike.symm.trans X11.warmed.alike) q11
  have c12 : Steps p.tables e below (s₁.setTop (entryFrame m #[.ref a, .ref b, .int (Int32.ofNat o), .int (Int32.ofNat len), .null] 6)) (T11.setTop (mkF m 48 #[.val (.ref a), .val (.ref b), .val (.int (Int32.ofNat o)), .val (.int (Int32.ofNat len)), .val .null, .val (.ref s.heap.size)] [.int 0, .ref a])) := g11
  obtain ⟨T13, X13, p13, bl13, sl13, st13⟩ := X11.finit hexec hown (wk W (.fieldLink "java/lang/String" 15 "java/lang/String" "coder" "B")) (Or.inr ⟨_, (wk W (.laysFinal "java/lang/String" "java/lang/String" "coder" "B"))⟩) (Or.inl ⟨rfl, hnm⟩) f2 (Or.inl rfl) hB11 (t := .byte) (by decide +kernel) rfl (g := (mkF m 48 #[.val (.ref a), .val (.ref b), .val (.int (Int32.ofNat o)), .val (.int (Int32.ofNat len)), .val .null, .val (.ref s.heap.size)] [.int 0, .ref a])) rfl (rest := []) rfl (hb hbytes d48)
  have c14 : Steps p.tables e below (s₁.setTop (entryFrame m #[.ref a, .ref b, .int (Int32.ofNat o), .int (Int32.ofNat len), .null] 6)) (T13.setTop (mkF m 54 #[.val (.ref a), .val (.ref b), .val (.int (Int32.ofNat o)), .val (.int (Int32.ofNat len)), .val .null, .val (.ref s.heap.size)] [.ref s.heap.size, .ref a])) := (c12.trans (st13 _ (Steps.refl _))).trans (by
    refine XS.aloadN X13.here hexec rfl (hb hbytes d51) rfl rfl ?_
    refine XS.aload X13.here hexec rfl (hb hbytes d52) rfl rfl ?_
    exact Steps.refl _)
  obtain ⟨T15, X15, p15, bl15, sl15, st15⟩ := X13.finit hexec hown (wk W (.fieldLink "java/lang/String" 9 "java/lang/String" "value" "[B")) (Or.inr ⟨_, (wk W (.laysFinal "java/lang/String" "java/lang/String" "value" "[B"))⟩) (Or.inl ⟨rfl, hnm⟩) f1 (Or.inl rfl) bl13 (t := (.array .byte)) (by decide +kernel) rfl (g := (mkF m 54 #[.val (.ref a), .val (.ref b), .val (.int (Int32.ofNat o)), .val (.int (Int32.ofNat len)), .val .null, .val (.ref s.heap.size)] [.ref s.heap.size, .ref a])) rfl (rest := []) rfl (hb hbytes d54)
  have c16 : Steps p.tables e below (s₁.setTop (entryFrame m #[.ref a, .ref b, .int (Int32.ofNat o), .int (Int32.ofNat len), .null] 6)) (T15.setTop (mkF m 57 #[.val (.ref a), .val (.ref b), .val (.int (Int32.ofNat o)), .val (.int (Int32.ofNat len)), .val .null, .val (.ref s.heap.size)] [])) := c14.trans (st15 _ (Steps.refl _))
  have ap := apart (Or.inr ⟨_, (wk W (.laysFinal "java/lang/String" "java/lang/String" "value" "[B"))⟩) (Or.inr ⟨_, (wk W (.laysFinal "java/lang/String" "java/lang/String" "coder" "B"))⟩) f1 f2 (t₁ := .array .byte) (t₂ := .byte) (by decide +kernel) (by decide +kernel) (by decide)
  have al := X8.warmed.alike.symm.trans X15.warmed.alike
  have n7 : T11.heap[s.heap.size]? = some N := by rw [q11]; exact n1.1
  exact ⟨T15, none, _, _, _, X15, by simp, rfl, by omega, (fun _ => rfl), ⟨rfl, _, N, bl15, ((Same.refl D _).set _ (by simp)).set _ (by simp), sl15, (Cell.slots_setSlot_ne _ ap).trans sl13, n1.keep al (p15.other hne (p13.other hne n7)), n2, by rw [al.findClass]; exact n3, n4, n5, fun y c h1 h2 => p15.other h1 (p13.other h1 (by rw [q11]; exact n6 y c h2)), by rw [p15.2.2, p13.2.2, q11]; exact z8⟩, fun fs hl => c16.trans (X15.returnOut hexec hret (hb hbytes d57) hl)⟩
end New4
namespace New1
def yN : MethodName := ⟨"java/lang/String", "<init>", "([C)V"⟩
abbrev yB : ByteArray := jdk_42_method_3_code
theorem d0 : decode yB 0 = .ok (.aload_n 0, 1) := by decide +kernel
theorem d1 : decode yB 1 = .ok (.aload_n 1, 1) := by decide +kernel
theorem d2 : decode yB 2 = .ok (.iconst 0, 1) := by decide +kernel
theorem d3 : decode yB 3 = .ok (.aload_n 1, 1) := by decide +kernel
theorem d4 : decode yB 4 = .ok (.arraylength, 1) := by decide +kernel
theorem d5 : decode yB 5 = .ok (.aconst_null, 1) := by decide +kernel
theorem d6 : decode yB 6 = .ok (.invokespecial 27, 3) := by decide +kernel
theorem d9 : decode yB 9 = .ok (.return_, 1) := by decide +kernel
def site : List Cond := [New4.tab] ++ initW "java/lang/String" 27 New4.yN
def tab : Cond := tabOf yN yB 2 none site
def P (a : Addr) (D : Cell) (fV fC : Field) (b : Addr) (A : Cell) (z : Int32) (args : Array Value) (s : State) : Prop := args = #[.ref a, .ref b] ∧ Blank "java/lang/String" a D s ∧ Found "java/lang/String" "value" "[B" fV s ∧ Found "java/lang/String" "coder" "B" fC s ∧ Ch b A s ∧ StaticIs s "java/lang/String" "COMPACT_STRINGS" "Z" (.int z) ∧ ¬ z = 0 ∧ 0 < A.slots.size ∧ A.slots.size ≤ 536870912 ∧ ∀ i, i < A.slots.size → ¬ 255 < cv A i
def E (a : Addr) (D : Cell) (fV fC : Field) (A : Cell) (r : Option Value) (s u : State) : Prop := Got a D fV fC A 0 A.slots.size r s u
/-- new String(chars), not empty, no char above 255: a Latin-1 String of their low bytes -/
theorem law (l : Launch) (a : Addr) (D : Cell) (fV fC : Field) (b : Addr) (A : Cell) (z : Int32) : Law l yN 2 1 3 52 yB 2 none site (P a D fV fC b A z) (E a D fV fC A) [⟨a, fC.slot⟩, ⟨a, fV.slot⟩] 1 A.slots.size := by
  refine Law.of_walk (plainFor_of_name (by decide +kernel)) (by decide +kernel) (by decide +kernel) (by decide) (fun _ _ h => by rw [h.1]; rfl) (fun _ U U' hal hh h => ⟨h.1, h.2.1.mv hal hh, h.2.2.1.al hal, h.2.2.2.1.al hal, h.2.2.2.2.1.mv hal hh, h.2.2.2.2.2.1.there hal hh, h.2.2.2.2.2.2⟩) (fun r U U' V V' h1 hal h2 h => Got.mv r U U' V V' h1 hal h2 h) ?_
  intro p e s m args below meth c s₁ X0 hexec hbytes hml hret hlk hnm hown hh0 W hP
  obtain ⟨rfl, hB, f1, f2, hA, s1, hz, l0, l2, hp⟩ := hP
  have c1 : Steps p.tables e below (s₁.setTop (entryFrame m #[.ref a, .ref b] 2)) (s₁.setTop (mkF m 0 #[.val (.ref a), .val (.ref b)] [])) := entry rfl
  have c2 : Steps p.tables e below (s₁.setTop (entryFrame m #[.ref a, .ref b] 2)) (s₁.setTop (mkF m 6 #[.val (.ref a), .val (.ref b)] [.null, .int (Int32.ofNat A.slots.size), .int 0, .ref b, .ref a])) := c1.trans (by
    refine XS.aloadN X0.here hexec rfl (hb hbytes d0) rfl rfl ?_
    refine XS.aloadN X0.here hexec rfl (hb hbytes d1) rfl rfl ?_
    refine iconstV X0.here hexec rfl 0 (hb hbytes d2) (by decide) ?_
    refine XS.aloadN X0.here hexec rfl (hb hbytes d3) rfl rfl ?_
    refine X0.alen hexec (hA.1.mv X0.warmed.alike hh0) rfl rfl (hb hbytes d4) ?_
    refine XS.aconstNull X0.here hexec rfl (hb hbytes d5) ?_
    exact Steps.refl _)
  obtain ⟨v3, T3, X3, E3, g3⟩ := X0.callN hexec (New4.law l a D fV fC b A z 0 A.slots.size) rfl hown (wks W (initW "java/lang/String" 27 New4.yN)) (W New4.tab (by simp only [site, List.mem_cons, List.mem_append, true_or, or_true])) (W := 0) (Nat.le_of_ble_eq_true rfl) (Nat.le_of_ble_eq_true rfl) (Nat.le_refl _) (by show 0 + A.slots.size ≤ A.slots.size; omega) (g := (mkF m 6 #[.val (.ref a), .val (.ref b)] [.null, .int (Int32.ofNat A.slots.size), .int (Int32.ofNat 0), .ref b, .ref a])) rfl (by rw [hml]; rfl) c2 (argsL := [.ref b, .int (Int32.ofNat 0), .int (Int32.ofNat A.slots.size), .null]) (rest := []) rfl rfl (by show 2 * 0 + 0 ≤ _; decide) (hb hbytes d6) (⟨rfl, hB.mv X0.warmed.alike hh0, f1.al X0.warmed.alike, f2.al X0.warmed.alike, hA.mv X0.warmed.alike hh0, s1.there X0.warmed.alike hh0, hz, l0, by omega, l2, fun i hi => by rw [Nat.zero_add]; exact hp i hi⟩)
  have e0 := Got.mv _ s₁ s _ _ hh0.symm (Vm.Alike.refl _) rfl E3
  obtain rfl := e0.1
  have c4 : Steps p.tables e below (s₁.setTop (entryFrame m #[.ref a, .ref b] 2)) (T3.setTop (mkF m 9 #[.val (.ref a), .val (.ref b)] [])) := g3
  exact ⟨T3, none, _, _, _, X3, by simp, rfl, by omega, (fun _ => rfl), e0, fun fs hl => c4.trans (X3.returnOut hexec hret (hb hbytes d9) hl)⟩
theorem pays {l : Launch} {R : Room} {p : Program} {e : Env} {below : List Frame} {s : State} {sargs : Array Value} {len W : Nat} (a : Addr) (D : Cell) (fV fC : Field) (b : Addr) (A : Cell) (z : Int32) (htab : tab.before sargs s = true) (hfr : 4 ≤ R.frames) (hlo : W + 65 ≤ R.locals) :
    Back l R p e below s sargs yN len W (fun A₁ a₁ => A₁.cells + 1 ≤ R.cells ∧ A₁.slots + A.slots.size ≤ R.slots ∧ P a D fV fC b A z a₁ A₁.U) (fun A₁ _ v₁ B₁ => E a D fV fC A v₁ A₁.U B₁.U ∧ B₁.locs = A₁.locs ++ [⟨a, fC.slot⟩, ⟨a, fV.slot⟩] ∧ B₁.cells = A₁.cells + 1 ∧ B₁.slots = A₁.slots + A.slots.size) :=
  (law l a D fV fC b A z).pays htab hfr (by omega)
end New1
/-- the byte, read back as charAt reads it, is the char -/
theorem lo8_mask {x : Int32} (h0 : ¬ x < 0) (h1 : ¬ 255 < x) : lo8 x &&& 255 = x := by
  have t : ∀ k : Fin 256, lo8 (Int32.ofNat k.val) &&& 255 = Int32.ofNat k.val := by decide +kernel
  rw [Int32.lt_iff_toInt_lt] at h0 h1
  have e0 : (0 : Int32).toInt = 0 := rfl
  have e1 : (255 : Int32).toInt = 255 := rfl
  obtain ⟨k, hk⟩ : ∃ k : Nat, x.toInt = k := ⟨x.toInt.toNat, by omega⟩
  have hx : x = Int32.ofNat k := Int32.toInt_inj.mp (by rw [hk, Int32.toInt_ofNat_small (by omega)])
  rw [hx]
  exact t ⟨k, by omega⟩
end StrChars
namespace StrChars.Road
open Jvm Sem ClassFile Op Lib Jvm.Stand Jvm.Free Jvm.Free.XT
open Jvm.Lib.Cold (StaticIs)
abbrev ST : String := "java/lang/String"
/-- every table word that New1's law asks, flat -/
abbrev words : List Jvm.Cond := [.code New1.yN New1.yB 2 none, .initialized ST, .methodLink ST 27 New4.yN, .instanceMethod New4.yN,
  .code New4.yN New4.yB 6 none, .fieldLink ST 38 ST "COMPACT_STRINGS" "Z", .laysFinal ST ST "value" "[B", .fieldLink ST 9 ST "value" "[B", .laysFinal ST ST "coder" "B", .fieldLink ST 15 ST "coder" "B",
  .methodLink ST 1 Lib.objectInit, .instanceMethod Lib.objectInit, .code Lib.objectInit ⟨#[0xb1]⟩ 1 none, .methodLink ST 177 Cmp3.yN, .static Cmp3.yN, .methodLink ST 47 CodL.yN, .static CodL.yN,
  .code Cmp3.yN Cmp3.yB 6 (some (.array .byte)), .initialized U16, .arrayClass .byte, .methodLink U16 115 Cmp5.yN, .static Cmp5.yN, .code Cmp5.yN Cmp5.yB 7 (some .int), .code CodL.yN CodL.yB 2 (some .byte)]
theorem tab_of {a : Array Value} {s : State} (h : ∀ w ∈ words, w.before a s = true) : New1.tab.before a s = true := by
  have h5 : Cmp5.tab.before a s = true := unparts (wk h (.code Cmp5.yN Cmp5.yB 7 (some .int))) (wks h (.initialized Cmp5.yN.cls :: Cmp5.site))
  have hc : CodL.tab.before a s = true := unparts (wk h (.code CodL.yN CodL.yB 2 (some .byte))) (wks h (.initialized CodL.yN.cls :: CodL.site))
  have q5 : ∀ w ∈ Cmp5.tab :: words, w.before a s = true := fun w hw => (List.mem_cons.mp hw).elim (fun e => e ▸ h5) (h w)
  have h3 : Cmp3.tab.before a s = true := unparts (wk q5 (.code Cmp3.yN Cmp3.yB 6 (some (.array .byte)))) (wks q5 (.initialized Cmp3.yN.cls :: Cmp3.site))
  have q3 : ∀ w ∈ Cmp3.tab :: CodL.tab :: words, w.before a s = true := fun w hw => (List.mem_cons.mp hw).elim (fun e => e ▸ h3) fun hw => (List.mem_cons.mp hw).elim (fun e => e ▸ hc) (h w)
  have h4 : New4.tab.before a s = true := unparts (wk q3 (.code New4.yN New4.yB 6 none)) (wks q3 (.initialized New4.yN.cls :: New4.site))
  have q4 : ∀ w ∈ New4.tab :: words, w.before a s = true := fun w hw => (List.mem_cons.mp hw).elim (fun e => e ▸ h4) (h w)
  exact unparts (wk q4 (.code New1.yN New1.yB 2 none)) (wks q4 (.initialized New1.yN.cls :: New1.site))
/-- the words ride from the start Z to the walk's own state -/
theorem moved {Z s : State} {a0 args : Array Value} (hZ : Z.Warmed39 s.vm) (hw : ∀ d ∈ words, d.before a0 Z = true) : ∀ d ∈ words, d.before args s = true := fun d hd => by
  have q := hw d hd
  have t : ∀ d ∈ words, d = .arrayClass .byte ∨ (d.onTables && d.keepsFace) = true := by decide +kernel
  rcases t d hd with rfl | t
  · exact RoadKit.mvA hZ q
  · exact RoadKit.mv hZ q t
/-- WHAT COMES BACK, over the tables of the start Z: h the heap at the call, h' behind it -/
def Q (Z : State) (x : Addr) (A : Cell) (h : Heap) (v : Option Value) (h' : Heap) (L : List Loc) : Prop := v = none ∧ (∀ y ∈ L, y.base = x) ∧ RoadKit.Keep h h' [x] ∧ h'.size = h.size + 1 ∧ RoadKit.Exa Z h' x ST ∧ RoadKit.Fld Z h' x ST "value" "[B" (.ref h.size) ∧ RoadKit.Fld Z h' x ST "coder" "B" (.int 0) ∧
  (∃ V : Cell, RoadKit.Arr Z h' h.size V .byte ∧ V.vm = .none ∧ Z.vm.findClass "[B" = some V.cls ∧ V.slots.size = A.slots.size ∧ ∀ j, j < A.slots.size → V.slots[j]? = some (.int (lo8 (cv A j)))) ∧
  ∀ (O n d : String) (w : Value), RoadKit.Fld Z h x O n d w → RoadKit.slotOf Z O n d ≠ RoadKit.slotOf Z ST "value" "[B" → RoadKit.slotOf Z O n d ≠ RoadKit.slotOf Z ST "coder" "B" → RoadKit.Fld Z h' x O n d w
/-- **new String(chars) AT A CALL, IN THE ROAD'S FORM**: for specialBack behind newO: x the fresh String, b the char[] with the cell A -/
theorem back {p : Program} {l : Launch} {e : Env} {R : Room} {s : State} {args : Array Value} {below : List Frame} {len W : Nat} {Z : State} {a0 : Array Value} {h : Heap} (hZ : Z.Warmed39 s.vm) (hw : ∀ d ∈ words, d.before a0 Z = true) {kI : Nat} (wi : (Jvm.Cond.instantiable ST kI).before a0 Z = true)
    {x b : Addr} {A : Cell} {z : Int32} {v0 c0 : Value} (E : RoadKit.Exa Z h x ST) (V : RoadKit.Fld Z h x ST "value" "[B" v0) (C : RoadKit.Fld Z h x ST "coder" "B" c0) (K : RoadKit.Arr Z h b A .char) (hty : Typed .char A) (S : RoadKit.Sta Z h ST "COMPACT_STRINGS" "Z" (.int z)) (hz : ¬ z = 0)
    (l0 : 0 < A.slots.size) (l2 : A.slots.size ≤ 536870912) (hp : ∀ i, i < A.slots.size → ¬ 255 < cv A i) (hfr : 4 ≤ R.frames) (hlo : W + 65 ≤ R.locals) :
    Back l R p e below s args New1.yN len W (fun P a => a = #[.ref x, .ref b] ∧ P.U.heap = h ∧ P.cells + 1 ≤ R.cells ∧ P.slots + A.slots.size ≤ R.slots)
      (fun P _ v B => ∃ L, Q Z x A h v B.U.heap L ∧ B.locs = P.locs ++ L ∧ B.cells = P.cells + 1 ∧ B.slots = P.slots + A.slots.size) := by
  intro m meth c P g ig mk a X hg hsize hdg hW hn hp'
  obtain ⟨rfl, rfl, r1, r2⟩ := hp'
  have al : Z.vm.Alike P.U.vm := hZ.alike.trans X.warmed.alike
  obtain ⟨D, cfV, kV, iV, fV, hD, gV, stV, knV, obV, asV, slV⟩ := id V
  obtain ⟨D', cfC, kC, iC, fC, hD', gC, stC, -, -, asC, slC⟩ := id C
  cases hD.symm.trans hD'
  obtain ⟨D2, kD, e1, e2, e3, e4, e5⟩ := id E
  cases hD.symm.trans e1
  obtain ⟨c2, k2, i1, i2, i3, -⟩ := Cond.instantiable_spec wi
  cases e2.symm.trans i1
  cases e3.symm.trans i2
  obtain ⟨kU, u1, u2⟩ := al.2.2 _ _ e3
  have hB : Blank ST x D P.U := ⟨hD, ⟨knV, fun q hq => by rw [hq] at obV; cases obV⟩, by rw [al.findClass]; exact e2, kU, u1, by rw [u2]; exact i3, by rw [u2]; exact e5 i3⟩
  have F1 : Found ST "value" "[B" fV P.U := ⟨SBG.found_only al ⟨cfV, kV, iV, gV⟩, stV⟩
  have F2 : Found ST "coder" "B" fC P.U := ⟨SBG.found_only al ⟨cfC, kC, iC, gC⟩, stC⟩
  have hA : Ch b A P.U := ⟨⟨K.1, State.isArrayOf_alike al K.2.1, K.2.2, by omega⟩, hty⟩
  have hS : StaticIs P.U ST "COMPACT_STRINGS" "Z" (.int z) := by
    obtain ⟨cfS, iS, kS, fS, st, cS, t1, t2, t3, t4, t5, t6, t7⟩ := S
    exact StaticIs.there (s := { Z with heap := P.U.heap }) ⟨cfS, iS, kS, fS, st, cS, t1, t2, t3, t4, t5, (fun q => by rw [q] at t6; cases t6), t7⟩ al rfl
  obtain ⟨v, B, X', ⟨⟨hv, E', V', q1, q2, q3, q4, q5, q6, q7, q8, q9, q10, q11⟩, hl, hc, hs⟩, st⟩ := New1.pays x D fV fC b A z (tab_of (moved hZ hw)) hfr hlo m meth c P g ig mk _ X hg hsize hdg hW hn ⟨r1, r2, rfl, hB, F1, F2, hA, hS, hz, l0, l2, hp⟩
  have al' : Z.vm.Alike B.U.vm := hZ.alike.trans X'.warmed.alike
  have hsz : E'.slots.size = D.slots.size := by
    obtain ⟨-, -, -, kB, w1, w2, w3⟩ := q1
    obtain ⟨kB', y1, y2⟩ := al'.2.2 _ _ e3
    rw [q2.2.1] at w1
    cases w1.symm.trans y1
    rw [w3, e5 i3, y2]
  refine ⟨v, B, X', ⟨_, ⟨hv, ?_, ⟨by omega, fun y cy hy hn' => q10 y cy (by simpa using hn') hy, fun y cy hy => ?_⟩, q11, ⟨E', _, q1.1, by rw [q2.2.1]; exact e2, by rw [q2.2.1]; exact e3, by rw [q2.1]; exact obV, fun _ => by rw [hsz]; exact e5 i3⟩,
    ⟨E', cfV, kV, iV, fV, q1.1, gV, stV, by rw [q2.1]; exact knV, by rw [q2.1]; exact obV, by rw [q2.2.1]; exact asV, q3⟩, ⟨E', cfC, kC, iC, fC, q1.1, gC, stC, by rw [q2.1]; exact knV, by rw [q2.1]; exact obV, by rw [q2.2.1]; exact asC, q4⟩,
    ⟨V', ⟨q5.1, State.isArrayOf_alike al'.symm q5.2.1, q5.2.2.1⟩, q6, by rw [← al'.findClass]; exact q7, q8, fun j hj => by have := q9 j hj; rwa [Nat.zero_add] at this⟩, fun O n d w F n1 n2 => ?_⟩, hl, hc, hs⟩, st⟩
  · intro y hy
    simp only [List.mem_cons, List.not_mem_nil, or_false] at hy
    rcases hy with rfl | rfl <;> rfl
  · by_cases q : y = x
    · subst q
      cases hD.symm.trans hy
      exact ⟨E', q1.1, q2.2.1, q2.1, hsz⟩
    · exact ⟨cy, q10 y cy q hy, rfl, rfl, rfl⟩
  · obtain ⟨D3, cf, k, i, f, g1, g2, g3, g4, g5, g6, g7⟩ := F
    cases hD.symm.trans g1
    simp only [RoadKit.slotOf, g2, gV, gC, Option.map_some, Option.getD_some] at n1 n2
    exact ⟨E', cf, k, i, f, q1.1, g2, g3, by rw [q2.1]; exact g4, by rw [q2.1]; exact g5, by rw [q2.2.1]; exact g6, by rw [q2.2.2 f.slot (by simp [n1, n2])]; exact g7⟩
end StrChars.Road
namespace StrChars.Road
open Jvm Sem ClassFile Op Lib Jvm.Stand Jvm.Free Jvm.Free.XT
/-- WHAT COMES BACK, the byte[] as a list of values -/
def QA (Z : State) (x : Addr) (zn : Int32) (cs : List Int32) (h : Heap) (v : Option Value) (h' : Heap) (L : List Loc) : Prop := v = none ∧ (∀ y ∈ L, y.base = x) ∧ RoadKit.Keep h h' [x] ∧ h'.size = h.size + 1 ∧ RoadKit.Exa Z h' x ST ∧ RoadKit.Fld Z h' x ST "value" "[B" (.ref h.size) ∧ RoadKit.Fld Z h' x ST "coder" "B" (.int 0) ∧
  (∃ kb, Z.vm.findClass "[B" = some kb ∧ RoadKit.Arv Z h' h.size kb .byte zn (cs.map fun c => .int (lo8 c)) (.int 0)) ∧
  ∀ (O n d : String) (w : Value), RoadKit.Fld Z h x O n d w → RoadKit.slotOf Z O n d ≠ RoadKit.slotOf Z ST "value" "[B" → RoadKit.slotOf Z O n d ≠ RoadKit.slotOf Z ST "coder" "B" → RoadKit.Fld Z h' x O n d w
/-- **new String(chars) AT A CALL, THE ARRAYS AS LISTS**: the char[] at b holds cs, not empty, no char above 255 -/
theorem backArv {p : Program} {l : Launch} {e : Env} {R : Room} {s : State} {args : Array Value} {below : List Frame} {len W : Nat} {Z : State} {a0 : Array Value} {h : Heap} (hZ : Z.Warmed39 s.vm) (hw : ∀ d ∈ words, d.before a0 Z = true) {kI : Nat} (wi : (Jvm.Cond.instantiable ST kI).before a0 Z = true)
    {x b : Addr} {k : ClassId} {zn z : Int32} {cs : List Int32} {dv v0 c0 : Value} (E : RoadKit.Exa Z h x ST) (V : RoadKit.Fld Z h x ST "value" "[B" v0) (C : RoadKit.Fld Z h x ST "coder" "B" c0) (K : RoadKit.Arv Z h b k .char zn (cs.map Value.int) dv) (S : RoadKit.Sta Z h ST "COMPACT_STRINGS" "Z" (.int z)) (hz : ¬ z = 0)
    (hlen : zn.toNatClampNeg = cs.length) (h0 : 0 < cs.length) (hbig : cs.length ≤ 536870912) (hall : ∀ c ∈ cs, ¬ 255 < c) (hfr : 4 ≤ R.frames) (hlo : W + 65 ≤ R.locals) :
    Back l R p e below s args New1.yN len W (fun P a => a = #[.ref x, .ref b] ∧ P.U.heap = h ∧ P.cells + 1 ≤ R.cells ∧ P.slots + cs.length ≤ R.slots)
      (fun P _ v B => ∃ L, QA Z x zn cs h v B.U.heap L ∧ B.locs = P.locs ++ L ∧ B.cells = P.cells + 1 ∧ B.slots = P.slots + cs.length) := by
  obtain ⟨A, K1, K2, K3, K4, K5, K6⟩ := K
  have e : A.slots.size = cs.length := K3.trans hlen
  have hat : ∀ (i : Nat) (hi : i < cs.length), A.slots[i]? = some (.int cs[i]) := fun i hi => by rw [K5 i (by omega)]; simp [List.getD_eq_getElem?_getD, hi]
  have hcv : ∀ (i : Nat) (hi : i < cs.length), cv A i = cs[i] := fun i hi => by unfold cv; rw [hat i hi]
  have hty : Typed .char A := fun i v hv => by
    have hi : i < A.slots.size := (Array.getElem?_eq_some_iff.mp hv).1
    have q := K5 i hi
    rw [hv] at q
    rw [Option.some.inj q]
    exact K6 i hi
  refine Back.mono (back hZ hw wi E V C K1 hty S hz (by omega) (by omega) (fun i hi => by rw [hcv i (by omega)]; exact hall _ (List.getElem_mem _)) hfr hlo) (fun P a hp => ⟨hp.1, hp.2.1, hp.2.2.1, by rw [e]; exact hp.2.2.2⟩) (fun P a v B hp hq => ?_)
  obtain ⟨L, ⟨q1, q2, q3, q4, q5, q6, q7, ⟨V', v1, v2, v3, v4, v5⟩, q9⟩, hl, hc, hs⟩ := hq
  refine ⟨L, ⟨q1, q2, q3, q4, q5, q6, q7, ⟨V'.cls, v3, V', v1, rfl, by rw [v4, e, hlen], K4, fun i hi => ?_, fun i hi => ?_⟩, q9⟩, hl, hc, by rw [hs, e]⟩
  · have hi' : i < cs.length := by omega
    rw [v5 i (by omega), hcv i hi']; simp [List.getD_eq_getElem?_getD, hi']
  · have hi' : i < cs.length := by omega
    simp only [List.getD_eq_getElem?_getD, List.getElem?_map, List.getElem?_eq_getElem hi', Option.map_some, Option.getD_some]
    exact fits_lo8 _
end StrChars.Road
namespace StrChars.Road
open Jvm Sem ClassFile Op Lib Jvm.Stand Jvm.Free Jvm.Free.XT
/-- WHAT COMES BACK, in the writer's own shape -/
def QV (Z : State) (x : Addr) (N : Int32) (bs : List Int32) (h : Heap) (n0 : Nat) (v : Option Value) (h' : Heap) (L : List Loc) : Prop := v = none ∧ RoadKit.Fr n0 L ∧ RoadKit.Keep h h' [x] ∧ RoadKit.Exa Z h' x ST ∧ RoadKit.Fld Z h' x ST "coder" "B" (.int 0) ∧
  ∃ (t : Addr) (kb : ClassId), n0 ≤ t ∧ h.size ≤ t ∧ ¬ t = x ∧ RoadKit.Fld Z h' x ST "value" "[B" (.ref t) ∧ RoadKit.Arv Z h' t kb .byte N (bs.map Value.int) (.int 0)
/-- **new String(chars) AT A CALL, FOR THE WRITER**: a char[] of n known ints, each 0 to 255 -/
theorem backV {p : Program} {l : Launch} {e : Env} {R : Room} {s : State} {args : Array Value} {below : List Frame} {len W : Nat} {Z : State} {a0 : Array Value} {h : Heap} (hZ : Z.Warmed39 s.vm) (hw : ∀ d ∈ words, d.before a0 Z = true) {kI : Nat} (wi : (Jvm.Cond.instantiable ST kI).before a0 Z = true)
    {x b : Addr} {kC : ClassId} {cs bs : List Int32} {d v0 c0 : Value} {z N : Int32} {n n0 : Nat} (hx0 : n0 ≤ x) (hh0 : n0 ≤ h.size) (E : RoadKit.Exa Z h x ST) (V : RoadKit.Fld Z h x ST "value" "[B" v0) (C : RoadKit.Fld Z h x ST "coder" "B" c0) (K : RoadKit.Arv Z h b kC .char N (cs.map Value.int) d) (S : RoadKit.Sta Z h ST "COMPACT_STRINGS" "Z" (.int z)) (hz : ¬ z = 0)
    (hn : cs.length = n) (hN : N = Int32.ofNat n) (l0 : 0 < n) (l2 : n ≤ 4000) (hp : ∀ c ∈ cs, ¬ c < 0 ∧ ¬ (255 : Int32) < c) (hb : bs = cs.map (fun c => c.toInt8.toInt32)) (hfr : 4 ≤ R.frames) (hlo : W + 65 ≤ R.locals) :
    Back l R p e below s args (⟨"java/lang/String", "<init>", "([C)V"⟩ : MethodName) len W (fun P a => a = #[.ref x, .ref b] ∧ P.U.heap = h ∧ P.cells + 1 ≤ R.cells ∧ P.slots + n ≤ R.slots)
      (fun P _ v B => ∃ L, QV Z x N bs h n0 v B.U.heap L ∧ B.locs = P.locs ++ L ∧ B.cells = P.cells + 1 ∧ B.slots = P.slots + n) := by
  subst hn hN hb
  refine Back.mono (backArv hZ hw wi E V C K S hz (n32 (by omega)) l0 (by omega) (fun c hc => (hp c hc).2) hfr hlo) (fun P a hp => hp) (fun P a v B hp hq => ?_)
  obtain ⟨L, ⟨q1, q2, q3, q4, q5, q6, q7, ⟨kb, v1, v2⟩, q9⟩, hl, hc, hs⟩ := hq
  exact ⟨L, ⟨q1, fun y hy => by rw [q2 y hy]; exact hx0, q3, q5, q7, h.size, kb, hh0, Nat.le_refl _, Nat.ne_of_gt E.lt, q6, by rw [List.map_map]; exact v2⟩, hl, hc, hs⟩
end StrChars.Road
namespace StrChars
open Jvm Sem ClassFile Op Lib Jvm.Stand Jvm.Free.XT Jvm.Free.ALB Jvm.Free.JM Jvm.Free
open Jvm.Lib.Cold (StaticIs)
def hi8 (x : Int32) : Int32 := lo8 (x >>> ((8 : Int32) &&& 31))
/-- what StringUTF16.getChar makes of two bytes -/
def pairCh (u v : Int32) : Int32 := (((u &&& 255) <<< ((0 : Int32) &&& 31)) ||| ((v &&& 255) <<< ((8 : Int32) &&& 31))).toUInt32.toUInt16.toUInt32.toInt32
theorem lo8_and (x : Int32) : (lo8 x &&& 255).toBitVec.toNat = x.toBitVec.toNat % 256 := by
  have h : (lo8 x).toBitVec = (x.toBitVec.signExtend 8).signExtend 32 := by rw [lo8, Int8.toBitVec_toInt32, Int32.toBitVec_toInt8]
  rw [Int32.toBitVec_and, BitVec.toNat_and, h]
  have e : ((x.toBitVec.signExtend 8).signExtend 32).toNat % 256 = x.toBitVec.toNat % 256 := by
    rw [BitVec.toNat_signExtend]
    have hlt := x.toBitVec.isLt
    simp only [BitVec.toNat_setWidth, BitVec.toNat_signExtend]
    split <;> split <;> omega
  rw [← e]
  exact Nat.and_two_pow_sub_one_eq_mod _ 8
theorem pair_says {c : Int32} (h0 : ¬ c < 0) (h1 : ¬ 65535 < c) : pairCh (lo8 c) (hi8 c) = c := by
  rw [Int32.lt_iff_toInt_lt] at h0 h1
  have e0 : (0 : Int32).toInt = 0 := rfl
  have e1 : (65535 : Int32).toInt = 65535 := rfl
  have hc : c.toInt = c.toBitVec.toNat := by
    have := c.toBitVec.isLt
    have e : c.toInt = c.toBitVec.toInt := rfl
    rw [e] at h0 h1
    rw [e]
    rw [BitVec.toInt_eq_toNat_cond] at h0 h1 ⊢
    split at h0 <;> split <;> omega
  have hn : c.toBitVec.toNat < 65536 := by omega
  have a1 := lo8_and c
  have a2 : (hi8 c &&& 255).toBitVec.toNat = c.toBitVec.toNat / 256 := by
    rw [hi8, lo8_and]
    have e : ((8 : Int32) &&& 31) = 8 := by decide
    rw [e, Int32.toBitVec_shiftRight]
    have e2 : ((8 : Int32).toBitVec.smod 32) = 8#32 := by decide
    rw [e2, BitVec.sshiftRight_eq', BitVec.toNat_sshiftRight_of_msb_false (by rw [BitVec.msb_eq_false_iff_two_mul_lt]; omega)]
    show c.toBitVec.toNat >>> 8 % 256 = _
    rw [Nat.shiftRight_eq_div_pow]
    omega
  unfold pairCh
  apply Int32.toBitVec_inj.mp
  apply BitVec.eq_of_toNat_eq
  have f0 : ((0 : Int32) &&& 31) = 0 := by decide
  have f8 : ((8 : Int32) &&& 31) = 8 := by decide
  rw [f0, f8]
  have g : (((lo8 c &&& 255) <<< (0 : Int32)) ||| ((hi8 c &&& 255) <<< (8 : Int32))).toBitVec.toNat = c.toBitVec.toNat := by
    rw [Int32.toBitVec_or, Int32.toBitVec_shiftLeft, Int32.toBitVec_shiftLeft]
    have s0 : ((0 : Int32).toBitVec.smod 32) = 0#32 := by decide
    have s8 : ((8 : Int32).toBitVec.smod 32) = 8#32 := by decide
    rw [s0, s8, BitVec.toNat_or]
    simp only [BitVec.shiftLeft_eq', BitVec.toNat_shiftLeft, a1, a2]
    show (c.toBitVec.toNat % 256) <<< 0 % 2 ^ 32 ||| (c.toBitVec.toNat / 256) <<< 8 % 2 ^ 32 = _
    rw [Nat.shiftLeft_zero, Nat.mod_eq_of_lt (show c.toBitVec.toNat % 256 < 2 ^ 32 by omega), Nat.mod_eq_of_lt (show (c.toBitVec.toNat / 256) <<< 8 < 2 ^ 32 by rw [Nat.shiftLeft_eq]; omega), Nat.or_comm, ← Nat.shiftLeft_add_eq_or_of_lt (by omega), Nat.shiftLeft_eq]
    omega
  show BitVec.toNat (((((lo8 c &&& 255) <<< (0 : Int32)) ||| ((hi8 c &&& 255) <<< (8 : Int32))).toBitVec.setWidth 16).setWidth 32) = _
  rw [BitVec.toNat_setWidth, BitVec.toNat_setWidth, g]
  omega
end StrChars
namespace StrChars
open Jvm Sem ClassFile Op Lib Jvm.Stand Jvm.Free.XT Jvm.Free.ALB Jvm.Free.JM Jvm.Free
open Jvm.Lib.Cold (StaticIs)
/-- charAt's cast of a byte read back -/
def chr8 (u : Int32) : Int32 := (u &&& 255).toUInt32.toUInt16.toUInt32.toInt32
theorem chr8_lo8 {c : Int32} (h0 : ¬ c < 0) (h1 : ¬ 255 < c) : chr8 (lo8 c) = c := by
  have t : ∀ k : Fin 256, (Int32.ofNat k.val).toUInt32.toUInt16.toUInt32.toInt32 = Int32.ofNat k.val := by decide +kernel
  unfold chr8
  rw [lo8_mask h0 h1]
  rw [Int32.lt_iff_toInt_lt] at h0 h1
  have e0 : (0 : Int32).toInt = 0 := rfl
  have e1 : (255 : Int32).toInt = 255 := rfl
  obtain ⟨k, hk⟩ : ∃ k : Nat, c.toInt = k := ⟨c.toInt.toNat, by omega⟩
  have hx : c = Int32.ofNat k := Int32.toInt_inj.mp (by rw [hk, Int32.toInt_ofNat_small (by omega)])
  rw [hx]
  exact t ⟨k, by omega⟩
theorem narrow_ch {c : Int32} (h0 : ¬ c < 0) (h1 : ¬ 65535 < c) : narrow .char (.int c) = .int c := by
  have q : narrow .char (.int (pairCh (lo8 c) (hi8 c))) = .int (pairCh (lo8 c) (hi8 c)) := narrow_c _
  rwa [pair_says h0 h1] at q
/-- the array's cell V codes the n chars f 0 .. f (n - 1) by the coder cd, as the JDK does: coder 1 just where some char is above 255 -/
def Cod (cd : Int32) (n : Nat) (f : Nat → Int32) (V : Cell) : Prop := (cd = 0 ∧ V.slots.size = n ∧ ∀ j, j < n → V.slots[j]? = some (.int (lo8 (f j))) ∧ ¬ 255 < f j) ∨ (cd = 1 ∧ V.slots.size = 2 * n ∧ (∀ j, j < n → V.slots[2 * j]? = some (.int (lo8 (f j))) ∧ V.slots[2 * j + 1]? = some (.int (hi8 (f j)))) ∧ ∃ j, j < n ∧ 255 < f j)
theorem Cod.cd {cd : Int32} {n : Nat} {f : Nat → Int32} {V : Cell} (h : Cod cd n f V) : cd = 0 ∨ cd = 1 := h.imp (fun q => q.1) fun q => q.1
/-- **x is a String of the n chars f 0 .. f (n - 1)**, Latin-1 or UTF-16; its array at t has the cell V -/
def Txt (x t : Addr) (V : Cell) (cd : Int32) (n : Nat) (f : Nat → Int32) (U : State) : Prop := Exact "java/lang/String" x U ∧ Has x "java/lang/String" "value" "[B" (.ref t) U ∧ Has x "java/lang/String" "coder" "B" (.int cd) U ∧ XT.Arr .byte t V U ∧ Cod cd n f V ∧ ∀ j, j < n → ¬ f j < 0 ∧ ¬ 65535 < f j
theorem Txt.mv {x t : Addr} {V : Cell} {cd : Int32} {n : Nat} {f : Nat → Int32} {U U' : State} (h : Txt x t V cd n f U) (hal : U.vm.Alike U'.vm) (hh : U'.heap = U.heap) : Txt x t V cd n f U' := ⟨h.1.mv hal hh, h.2.1.mv hal hh, h.2.2.1.mv hal hh, h.2.2.2.1.mv hal hh, h.2.2.2.2⟩
namespace IsL
def yN : MethodName := ⟨"java/lang/String", "isLatin1", "()Z"⟩
abbrev yB : ByteArray := jdk_42_method_154_code
theorem d0 : decode yB 0 = .ok (.getstatic 38, 3) := by decide +kernel
theorem d3 : decode yB 3 = .ok (.ifCond (.eq) 14, 3) := by decide +kernel
theorem d6 : decode yB 6 = .ok (.aload_n 0, 1) := by decide +kernel
theorem d7 : decode yB 7 = .ok (.getfield 15, 3) := by decide +kernel
theorem d10 : decode yB 10 = .ok (.ifCond (.ne) 7, 3) := by decide +kernel
theorem d13 : decode yB 13 = .ok (.iconst 1, 1) := by decide +kernel
theorem d14 : decode yB 14 = .ok (.goto 4, 3) := by decide +kernel
theorem d17 : decode yB 17 = .ok (.iconst 0, 1) := by decide +kernel
theorem d18 : decode yB 18 = .ok (.ireturn, 1) := by decide +kernel
def site : List Cond := [.fieldLink "java/lang/String" 38 "java/lang/String" "COMPACT_STRINGS" "Z", .fieldLink "java/lang/String" 15 "java/lang/String" "coder" "B"]
def tab : Cond := tabOf yN yB 1 (some .boolean) site
def P (x : Addr) (cd z : Int32) (args : Array Value) (s : State) : Prop := args = #[.ref x] ∧ Has x "java/lang/String" "coder" "B" (.int cd) s ∧ (cd = 0 ∨ cd = 1) ∧ StaticIs s "java/lang/String" "COMPACT_STRINGS" "Z" (.int z) ∧ ¬ z = 0
def E (cd : Int32) (r : Option Value) (s u : State) : Prop := XT.PureE (some (.int (1 - cd))) r s u
theorem law (l : Launch) (x : Addr) (cd z : Int32) : Law l yN 1 0 0 0 yB 1 (some .boolean) site (P x cd z) (E cd) [] 0 0 := by
  refine Law.of_walk (plainFor_of_name (by decide +kernel)) (by decide +kernel) (by decide +kernel) (by decide) (fun _ _ h => by rw [h.1]; rfl) (fun _ U U' hal hh h => ⟨h.1, h.2.1.mv hal hh, h.2.2.1, h.2.2.2.1.there hal hh, h.2.2.2.2⟩) (fun r U U' V V' h1 hal h2 h => XT.PureE.mv r U U' V V' h1 hal h2 h) ?_
  intro p e s m args below meth c s₁ X0 hexec hbytes hml hret hlk hnm hown hh0 W hP
  obtain ⟨rfl, hx, hc, s1, hz⟩ := hP
  have c1 : Steps p.tables e below (s₁.setTop (entryFrame m #[.ref x] 1)) (s₁.setTop (mkF m 0 #[.val (.ref x)] [])) := entry rfl
  obtain ⟨T2, X2, q2, st2⟩ := X0.sget hexec hown (wk W (.fieldLink "java/lang/String" 38 "java/lang/String" "COMPACT_STRINGS" "Z")) s1 (fun _ _ h => by rw [hh0]; exact h) (g := (mkF m 0 #[.val (.ref x)] [])) rfl (hb hbytes d0)
  have hh2 := q2.trans hh0
  have c3 : Steps p.tables e below (s₁.setTop (entryFrame m #[.ref x] 1)) (T2.setTop (mkF m 7 #[.val (.ref x)] [.ref x])) := (c1.trans (st2 _ (Steps.refl _))).trans (by
    refine XS.ifNo X2.here hexec rfl (hb hbytes d3) rfl (i0_eq_f hz) ?_
    refine XS.aloadN X2.here hexec rfl (hb hbytes d6) rfl rfl ?_
    exact Steps.refl _)
  obtain ⟨T4, X4, q4, st4⟩ := X2.hget hexec hown (wk W (.fieldLink "java/lang/String" 15 "java/lang/String" "coder" "B")) (hx.mv X2.warmed.alike hh2) (g := (mkF m 7 #[.val (.ref x)] [.ref x])) rfl (rest := []) rfl (hb hbytes d7)
  have c5 : Steps p.tables e below (s₁.setTop (entryFrame m #[.ref x] 1)) (T4.setTop (mkF m 10 #[.val (.ref x)] [.int cd])) := c3.trans (st4 _ (Steps.refl _))
  have c6 : Steps p.tables e below (s₁.setTop (entryFrame m #[.ref x] 1)) (T4.setTop (mkF m 18 #[.val (.ref x)] [.int (1 - cd)])) := by
    rcases hc with rfl | rfl
    · exact c5.trans (by
        refine XS.ifNo X4.here hexec rfl (hb hbytes d10) rfl (i0_ne_f rfl) ?_
        refine iconstV X4.here hexec rfl 1 (hb hbytes d13) (by decide) ?_
        refine XS.goto X4.here hexec rfl (pc0 := 14) rfl (hb hbytes d14) (by decide) rfl ?_
        exact Steps.refl _)
    · exact c5.trans (by
        refine XS.ifYes X4.here hexec rfl (pc0 := 10) rfl (hb hbytes d10) rfl (i0_ne_t (by decide)) (by decide) rfl ?_
        refine iconstV X4.here hexec rfl 0 (hb hbytes d17) (by decide) ?_
        exact Steps.refl _)
  exact ⟨T4, some (.int (1 - cd)), _, _, _, X4, rfl, rfl, rfl, (fun h => by cases h), ⟨rfl, q4.trans hh2⟩, fun fs hl => c6.trans (X4.ireturnOut hexec hret (by rcases hc with rfl | rfl <;> rfl) (Or.inr (Or.inl rfl)) (hb hbytes d18) hl)⟩
end IsL
namespace LChA
def yN : MethodName := ⟨"java/lang/StringLatin1", "charAt", "([BI)C"⟩
abbrev yB : ByteArray := jdk_43_method_2_code
theorem d0 : decode yB 0 = .ok (.iload_n 1, 1) := by decide +kernel
theorem d1 : decode yB 1 = .ok (.aload_n 0, 1) := by decide +kernel
theorem d2 : decode yB 2 = .ok (.arraylength, 1) := by decide +kernel
theorem d3 : decode yB 3 = .ok (.invokestatic 9, 3) := by decide +kernel
theorem d6 : decode yB 6 = .ok (.aload_n 0, 1) := by decide +kernel
theorem d7 : decode yB 7 = .ok (.iload_n 1, 1) := by decide +kernel
theorem d8 : decode yB 8 = .ok (.baload, 1) := by decide +kernel
theorem d9 : decode yB 9 = .ok (.sipush 255, 3) := by decide +kernel
theorem d12 : decode yB 12 = .ok (.iand, 1) := by decide +kernel
theorem d13 : decode yB 13 = .ok (.i2c, 1) := by decide +kernel
theorem d14 : decode yB 14 = .ok (.ireturn, 1) := by decide +kernel
def site : List Cond := [JO.Str_checkIndex.tab] ++ staticW "java/lang/StringLatin1" 9 JO.Str_checkIndex.yN
def tab : Cond := tabOf yN yB 2 (some .char) site
def P (t : Addr) (V : Cell) (i : Nat) (u : Int32) (fm : Value) (args : Array Value) (s : State) : Prop := args = #[.ref t, .int (Int32.ofNat i)] ∧ XT.Arr .byte t V s ∧ V.slots[i]? = some (.int u) ∧ (StaticIs s "jdk/internal/util/Preconditions" "SIOOBE_FORMATTER" "Ljava/util/function/BiFunction;" fm ∧ fm.isRef = true)
def E (u : Int32) (r : Option Value) (s w : State) : Prop := XT.PureE (some (.int (chr8 u))) r s w
theorem law (l : Launch) (t : Addr) (V : Cell) (i : Nat) (u : Int32) (fm : Value) : Law l yN 2 2 2 27 yB 2 (some .char) site (P t V i u fm) (E u) [] 0 0 := by
  refine Law.of_walk (plainFor_of_name (by decide +kernel)) (by decide +kernel) (by decide +kernel) (by decide) (fun _ _ h => by rw [h.1]; rfl) (fun _ U U' hal hh h => ⟨h.1, h.2.1.mv hal hh, h.2.2.1, h.2.2.2.1.there hal hh, h.2.2.2.2⟩) (fun r U U' V V' h1 hal h2 h => XT.PureE.mv r U U' V V' h1 hal h2 h) ?_
  intro p e s m args below meth c s₁ X0 hexec hbytes hml hret hlk hnm hown hh0 W hP
  obtain ⟨rfl, hV, hu, s1, rf⟩ := hP
  have v31 := hV.2.2.2
  have hi : i < V.slots.size := (Array.getElem?_eq_some_iff.mp hu).1
  have c1 : Steps p.tables e below (s₁.setTop (entryFrame m #[.ref t, .int (Int32.ofNat i)] 2)) (s₁.setTop (mkF m 0 #[.val (.ref t), .val (.int (Int32.ofNat i))] [])) := entry rfl
  have c2 : Steps p.tables e below (s₁.setTop (entryFrame m #[.ref t, .int (Int32.ofNat i)] 2)) (s₁.setTop (mkF m 3 #[.val (.ref t), .val (.int (Int32.ofNat i))] [.int (Int32.ofNat V.slots.size), .int (Int32.ofNat i)])) := c1.trans (by
    refine XS.iloadN X0.here hexec rfl (hb hbytes d0) rfl ?_
    refine XS.aloadN X0.here hexec rfl (hb hbytes d1) rfl rfl ?_
    refine X0.alen hexec (hV.mv X0.warmed.alike hh0) rfl rfl (hb hbytes d2) ?_
    exact Steps.refl _)
  obtain ⟨v3, T3, X3, E3, g3⟩ := X0.callS hexec (JO.Str_checkIndex.law l (Int32.ofNat i) (Int32.ofNat V.slots.size) fm) hown (wks W (staticW "java/lang/StringLatin1" 9 JO.Str_checkIndex.yN)) (wk W JO.Str_checkIndex.tab) (W := 0) (Nat.le_of_ble_eq_true rfl) (Nat.le_of_ble_eq_true rfl) (Nat.le_refl _) (Nat.le_refl _) (g := (mkF m 3 #[.val (.ref t), .val (.int (Int32.ofNat i))] [.int (Int32.ofNat V.slots.size), .int (Int32.ofNat i)])) rfl (by rw [hml]; rfl) c2 (argsL := [.int (Int32.ofNat i), .int (Int32.ofNat V.slots.size)]) (rest := []) rfl rfl (by show 2 * 0 + 0 ≤ _; decide) (hb hbytes d3) (⟨rfl, rf, s1.there X0.warmed.alike hh0, Int32.ofNat_not_neg (by omega), lt32 v31 hi⟩)
  obtain ⟨rfl, q3⟩ := E3
  have hh3 := q3.trans hh0
  have c4 : Steps p.tables e below (s₁.setTop (entryFrame m #[.ref t, .int (Int32.ofNat i)] 2)) (T3.setTop (mkF m 14 #[.val (.ref t), .val (.int (Int32.ofNat i))] [.int (chr8 u)])) := Steps.trans g3 (by
    refine XS.aloadN X3.here hexec rfl (hb hbytes d6) rfl rfl ?_
    refine XS.iloadN X3.here hexec rfl (hb hbytes d7) rfl ?_
    refine X3.aget hexec (hV.mv X3.warmed.alike hh3) rfl hu rfl rfl (hb hbytes d8) ?_
    refine sipushV X3.here hexec rfl 255 (hb hbytes d9) (by decide) ?_
    refine XS.iand X3.here hexec rfl (hb hbytes d12) rfl ?_
    refine i2c X3.here hexec rfl (hb hbytes d13) rfl ?_
    exact Steps.refl _)
  exact ⟨T3, some (.int (chr8 u)), _, _, _, X3, rfl, rfl, rfl, (fun h => by cases h), ⟨rfl, hh3⟩, fun fs hl => c4.trans (X3.ireturnOut hexec hret (narrow_c _) (Or.inr (Or.inr (Or.inr (Or.inl rfl)))) (hb hbytes d14) hl)⟩
end LChA
end StrChars
namespace StrChars.Road
open Jvm Sem ClassFile Op Lib Jvm.Stand Jvm.Free Jvm.Free.XT
open Jvm.Lib.Cold (StaticIs)
theorem consq {a : Array Value} {s : State} {c : Jvm.Cond} {L : List Jvm.Cond} (h0 : c.before a s = true) (h : ∀ w ∈ L, w.before a s = true) : ∀ w ∈ c :: L, w.before a s = true := fun w hw => (List.mem_cons.mp hw).elim (fun e => e ▸ h0) (h w)
/-- the bytes of the chars cs, low before high -/
def wideBytes : List Int32 → List Value
  | [] => []
  | c :: cs => .int (lo8 c) :: .int (hi8 c) :: wideBytes cs
theorem wide_lo (d : Value) : ∀ (cs : List Int32) (j : Nat), j < cs.length → (wideBytes cs).getD (2 * j) d = .int (lo8 (cs.getD j 0))
  | [], j, h => absurd h (Nat.not_lt_zero j)
  | c :: cs, 0, _ => rfl
  | c :: cs, j + 1, h => by
    have q := wide_lo d cs j (by simpa using h)
    rw [show 2 * (j + 1) = 2 * j + 1 + 1 from by omega]
    simpa [wideBytes] using q
theorem wide_hi (d : Value) : ∀ (cs : List Int32) (j : Nat), j < cs.length → (wideBytes cs).getD (2 * j + 1) d = .int (hi8 (cs.getD j 0))
  | [], j, h => absurd h (Nat.not_lt_zero j)
  | c :: cs, 0, _ => rfl
  | c :: cs, j + 1, h => by
    have q := wide_hi d cs j (by simpa using h)
    rw [show 2 * (j + 1) + 1 = 2 * j + 1 + 1 + 1 from by omega]
    simpa [wideBytes] using q
theorem low_at (d : Value) (cs : List Int32) (j : Nat) (h : j < cs.length) : (cs.map fun c => Value.int (lo8 c)).getD j d = .int (lo8 (cs.getD j 0)) := by
  simp [List.getD_eq_getElem?_getD, h]
/-- an array of N2 bytes vs codes the chars cs by the coder cd -/
def CodA (cs : List Int32) (cd N2 : Int32) (vs : List Value) : Prop := (cd = 0 ∧ N2 = Int32.ofNat cs.length ∧ vs = (cs.map fun c => Value.int (lo8 c)) ∧ ∀ c ∈ cs, ¬ 255 < c) ∨ (cd = 1 ∧ N2 = Int32.ofNat (2 * cs.length) ∧ vs = wideBytes cs ∧ ∃ c ∈ cs, 255 < c)
theorem CodA.cod {cs : List Int32} {cd N2 : Int32} {vs : List Value} {V : Cell} (h : CodA cs cd N2 vs) (hn : 2 * cs.length < 2 ^ 31) (hs : V.slots.size = N2.toNatClampNeg) (hv : RoadKit.Has V vs (.int 0)) : Cod cd cs.length (fun j => cs.getD j 0) V := by
  rcases h with ⟨rfl, rfl, rfl, h⟩ | ⟨rfl, rfl, rfl, c, hc, hw⟩
  · rw [n32 (by omega)] at hs
    exact Or.inl ⟨rfl, hs, fun j hj => ⟨by rw [hv j (by omega), low_at _ _ _ hj], by
      have e : cs.getD j 0 = cs[j] := by simp [List.getD_eq_getElem?_getD, hj]
      show ¬ 255 < cs.getD j 0
      rw [e]; exact h _ (List.getElem_mem _)⟩⟩
  · rw [n32 (by omega)] at hs
    obtain ⟨j, hj, rfl⟩ := List.getElem_of_mem hc
    exact Or.inr ⟨rfl, hs, fun j hj => ⟨by rw [hv _ (by omega), wide_lo _ _ _ hj], by rw [hv _ (by omega), wide_hi _ _ _ hj]⟩, j, hj, by
      have e : cs.getD j 0 = cs[j] := by simp [List.getD_eq_getElem?_getD, hj]
      show 255 < cs.getD j 0
      rw [e]; exact hw⟩
/-- an object of exactly java/lang/String, its two fields found: as the laws ask it -/
theorem strObj {Z U : State} {a0 : Array Value} {kI : Nat} (wi : (Jvm.Cond.instantiable ST kI).before a0 Z = true) (al : Z.vm.Alike U.vm) {x : Addr} {v0 c0 : Value} (E : RoadKit.Exa Z U.heap x ST) (V : RoadKit.Fld Z U.heap x ST "value" "[B" v0) (C : RoadKit.Fld Z U.heap x ST "coder" "B" c0) :
    ∃ (D : Cell) (fV fC : Field), Blank ST x D U ∧ Found ST "value" "[B" fV U ∧ Found ST "coder" "B" fC U ∧ D.slots[fV.slot]? = some v0 ∧ D.slots[fC.slot]? = some c0 ∧ RoadKit.slotOf Z ST "value" "[B" = fV.slot ∧ RoadKit.slotOf Z ST "coder" "B" = fC.slot := by
  obtain ⟨D, cfV, kV, iV, fV, hD, gV, stV, knV, obV, asV, slV⟩ := V
  obtain ⟨D', cfC, kC, iC, fC, hD', gC, stC, -, -, asC, slC⟩ := C
  cases hD.symm.trans hD'
  obtain ⟨D2, kD, e1, e2, e3, e4, e5⟩ := E
  cases hD.symm.trans e1
  obtain ⟨c2, k2, i1, i2, i3, -⟩ := Cond.instantiable_spec wi
  cases e2.symm.trans i1
  cases e3.symm.trans i2
  obtain ⟨kU, u1, u2⟩ := al.2.2 _ _ e3
  exact ⟨D, fV, fC, ⟨hD, ⟨knV, fun q hq => by rw [hq] at obV; cases obV⟩, by rw [al.findClass]; exact e2, kU, u1, by rw [u2]; exact i3, by rw [u2]; exact e5 i3⟩, ⟨SBG.found_only al ⟨cfV, kV, iV, gV⟩, stV⟩, ⟨SBG.found_only al ⟨cfC, kC, iC, gC⟩, stC⟩, slV, slC, by simp [RoadKit.slotOf, gV], by simp [RoadKit.slotOf, gC]⟩
theorem sta_is {Z U : State} (al : Z.vm.Alike U.vm) {C n d : String} {v : Value} (S : RoadKit.Sta Z U.heap C n d v) : StaticIs U C n d v := by
  obtain ⟨cfS, iS, kS, fS, st, cS, t1, t2, t3, t4, t5, t6, t7⟩ := S
  exact StaticIs.there (s := { Z with heap := U.heap }) ⟨cfS, iS, kS, fS, st, cS, t1, t2, t3, t4, t5, (fun q => by rw [q] at t6; cases t6), t7⟩ al rfl
end StrChars.Road
namespace StrChars.Road
open Jvm Sem ClassFile Op Lib Jvm.Stand Jvm.Free Jvm.Free.XT
open Jvm.Lib.Cold (StaticIs)
/-- the road's facts of a String, as the laws ask it -/
theorem txt_of {Z U : State} {a0 : Array Value} {kI : Nat} (wi : (Jvm.Cond.instantiable ST kI).before a0 Z = true) (al : Z.vm.Alike U.vm) {x t : Addr} {kb : ClassId} {cs : List Int32} {cd N2 : Int32} {vs : List Value} (E : RoadKit.Exa Z U.heap x ST) (V : RoadKit.Fld Z U.heap x ST "value" "[B" (.ref t)) (C : RoadKit.Fld Z U.heap x ST "coder" "B" (.int cd)) (K : RoadKit.Arv Z U.heap t kb .byte N2 vs (.int 0)) (hc : CodA cs cd N2 vs) (hb : ∀ c ∈ cs, ¬ c < 0 ∧ ¬ (65535 : Int32) < c) (l2 : cs.length ≤ 4000) :
    ∃ A, Txt x t A cd cs.length (fun j => cs.getD j 0) U := by
  obtain ⟨A, K1, K2, K3, K4, K5, K6⟩ := K
  have hcod := hc.cod (by omega) K3 K5
  obtain ⟨D, fV, fC, hB, F1, F2, g1, g2, -, -⟩ := strObj wi al E V C
  exact ⟨A, ⟨_, hB.2.2.1, D, hB.1, rfl, by cases q : D.vm <;> first | rfl | exact absurd q (hB.2.1.2 _)⟩, Has.of hB F1 g1, Has.of hB F2 g2, ⟨K1.1, State.isArrayOf_alike al K1.2.1, K1.2.2, by rcases hcod with ⟨-, q, -⟩ | ⟨-, q, -⟩ <;> omega⟩, hcod, fun j hj => by
    have e : cs.getD j 0 = cs[j] := by simp [List.getD_eq_getElem?_getD, hj]
    show ¬ cs.getD j 0 < 0 ∧ ¬ 65535 < cs.getD j 0
    rw [e]; exact hb _ (List.getElem_mem _)⟩
end StrChars.Road
namespace StrChars
open Jvm Sem ClassFile Op Lib Jvm.Stand Jvm.Free.XT Jvm.Free.ALB Jvm.Free.JM Jvm.Free
open Jvm.Lib.Cold (StaticIs)
namespace ChN
def yN : MethodName := ⟨"java/lang/String", "charAt", "(I)C"⟩
abbrev yB : ByteArray := jdk_42_method_56_code
theorem d0 : decode yB 0 = .ok (.aload_n 0, 1) := by decide +kernel
theorem d1 : decode yB 1 = .ok (.invokevirtual 492, 3) := by decide +kernel
theorem d4 : decode yB 4 = .ok (.ifCond (.eq) 12, 3) := by decide +kernel
theorem d7 : decode yB 7 = .ok (.aload_n 0, 1) := by decide +kernel
theorem d8 : decode yB 8 = .ok (.getfield 9, 3) := by decide +kernel
theorem d11 : decode yB 11 = .ok (.iload_n 1, 1) := by decide +kernel
theorem d12 : decode yB 12 = .ok (.invokestatic 495, 3) := by decide +kernel
theorem d15 : decode yB 15 = .ok (.ireturn, 1) := by decide +kernel
def site : List Cond := [.fieldLink "java/lang/String" 9 "java/lang/String" "value" "[B", IsL.tab, LChA.tab] ++ virtW "java/lang/String" 492 "java/lang/String" IsL.yN IsL.yN ++ staticW "java/lang/String" 495 LChA.yN
def tab : Cond := tabOf yN yB 2 (some .char) site
def P (x t : Addr) (V : Cell) (n : Nat) (f : Nat → Int32) (z : Int32) (fm : Value) (i : Nat) (args : Array Value) (s : State) : Prop := args = #[.ref x, .int (Int32.ofNat i)] ∧ Txt x t V 0 n f s ∧ i < n ∧ StaticIs s "java/lang/String" "COMPACT_STRINGS" "Z" (.int z) ∧ ¬ z = 0 ∧ StaticIs s "jdk/internal/util/Preconditions" "SIOOBE_FORMATTER" "Ljava/util/function/BiFunction;" fm ∧ fm.isRef = true
def E (f : Nat → Int32) (i : Nat) (r : Option Value) (s u : State) : Prop := XT.PureE (some (.int (f i))) r s u
/-- charAt(i) of a Latin-1 String of n chars, i < n: f i -/
theorem law (l : Launch) (x t : Addr) (V : Cell) (n : Nat) (f : Nat → Int32) (z : Int32) (fm : Value) (i : Nat) : Law l yN 2 1 3 40 yB 2 (some .char) site (P x t V n f z fm i) (E f i) [] 0 0 := by
  refine Law.of_walk (plainFor_of_name (by decide +kernel)) (by decide +kernel) (by decide +kernel) (by decide) (fun _ _ h => by rw [h.1]; rfl) (fun _ U U' hal hh h => ⟨h.1, h.2.1.mv hal hh, h.2.2.1, h.2.2.2.1.there hal hh, h.2.2.2.2.1, h.2.2.2.2.2.1.there hal hh, h.2.2.2.2.2.2⟩) (fun r U U' V V' h1 hal h2 h => XT.PureE.mv r U U' V V' h1 hal h2 h) ?_
  intro p e s m args below meth c s₁ X0 hexec hbytes hml hret hlk hnm hown hh0 W hP
  obtain ⟨rfl, hx, hi, s1, hz, s3, rf⟩ := hP
  have v31 := hx.2.2.2.1.2.2.2
  have hr := hx.2.2.2.2.2 i hi
  have hx0 := hx.mv X0.warmed.alike hh0
  have c1 : Steps p.tables e below (s₁.setTop (entryFrame m #[.ref x, .int (Int32.ofNat i)] 2)) (s₁.setTop (mkF m 1 #[.val (.ref x), .val (.int (Int32.ofNat i))] [.ref x])) := Steps.trans (entry rfl) (by
    show Steps p.tables e below (s₁.setTop (mkF m 0 #[.val (.ref x), .val (.int (Int32.ofNat i))] [])) _
    refine XS.aloadN X0.here hexec rfl (hb hbytes d0) rfl rfl ?_
    exact Steps.refl _)
  obtain ⟨v2, T2, X2, E2, g2⟩ := X0.callV hexec (IsL.law l x 0 z) hown (wks W (virtW "java/lang/String" 492 "java/lang/String" IsL.yN IsL.yN)) rfl (by decide) (wk W IsL.tab) (W := 0) (Nat.le_of_ble_eq_true rfl) (Nat.le_of_ble_eq_true rfl) (Nat.le_refl _) (Nat.le_refl _) (hx0.1.fc X0.warmed.alike) hx0.1.is (g := (mkF m 1 #[.val (.ref x), .val (.int (Int32.ofNat i))] [.ref x])) rfl (by rw [hml]; rfl) c1 (argsL := []) (rest := []) rfl rfl (by show 2 * 0 + 0 ≤ _; decide) (hb hbytes d1) (⟨rfl, hx0.2.2.1, hx.2.2.2.2.1.cd, s1.there X0.warmed.alike hh0, hz⟩)
  obtain ⟨rfl, q2⟩ := E2
  have hh2 := q2.trans hh0
  have hx2 := hx.mv X2.warmed.alike hh2
  obtain ⟨-, k1, k2⟩ | ⟨k0, -⟩ := hx.2.2.2.2.1
  · have c3 : Steps p.tables e below (s₁.setTop (entryFrame m #[.ref x, .int (Int32.ofNat i)] 2)) (T2.setTop (mkF m 8 #[.val (.ref x), .val (.int (Int32.ofNat i))] [.ref x])) := Steps.trans g2 (by
      refine XS.ifNo X2.here hexec rfl (hb hbytes d4) rfl (i0_eq_f (by decide)) ?_
      refine XS.aloadN X2.here hexec rfl (hb hbytes d7) rfl rfl ?_
      exact Steps.refl _)
    obtain ⟨T4, X4, q4, st4⟩ := X2.hget hexec hown (wk W (.fieldLink "java/lang/String" 9 "java/lang/String" "value" "[B")) hx2.2.1 (g := (mkF m 8 #[.val (.ref x), .val (.int (Int32.ofNat i))] [.ref x])) rfl (rest := []) rfl (hb hbytes d8)
    have hh4 := q4.trans hh2
    have c5 : Steps p.tables e below (s₁.setTop (entryFrame m #[.ref x, .int (Int32.ofNat i)] 2)) (T4.setTop (mkF m 12 #[.val (.ref x), .val (.int (Int32.ofNat i))] [.int (Int32.ofNat i), .ref t])) := (c3.trans (st4 _ (Steps.refl _))).trans (by
      refine XS.iloadN X4.here hexec rfl (hb hbytes d11) rfl ?_
      exact Steps.refl _)
    obtain ⟨v6, T6, X6, E6, g6⟩ := X4.callS hexec (LChA.law l t V i (lo8 (f i)) fm) hown (wks W (staticW "java/lang/String" 495 LChA.yN)) (wk W LChA.tab) (W := 0) (Nat.le_of_ble_eq_true rfl) (Nat.le_of_ble_eq_true rfl) (Nat.le_refl _) (Nat.le_refl _) (g := (mkF m 12 #[.val (.ref x), .val (.int (Int32.ofNat i))] [.int (Int32.ofNat i), .ref t])) rfl (by rw [hml]; rfl) c5 (argsL := [.ref t, .int (Int32.ofNat i)]) (rest := []) rfl rfl (by show 2 * 0 + 0 ≤ _; decide) (hb hbytes d12) (⟨rfl, hx.2.2.2.1.mv X4.warmed.alike hh4, (k2 i hi).1, s3.there X4.warmed.alike hh4, rf⟩)
    obtain ⟨rfl, q6⟩ := E6
    rw [chr8_lo8 hr.1 (k2 i hi).2] at g6
    exact ⟨T6, some (.int (f i)), _, _, _, X6, rfl, rfl, rfl, (fun h => by cases h), ⟨rfl, q6.trans hh4⟩, fun fs hl => Steps.trans g6 (X6.ireturnOut hexec hret (narrow_ch hr.1 hr.2) (Or.inr (Or.inr (Or.inr (Or.inl rfl)))) (hb hbytes d15) hl)⟩
  · exact absurd k0 (by decide)
theorem pays {l : Launch} {R : Room} {p : Program} {e : Env} {below : List Frame} {s : State} {sargs : Array Value} {len W : Nat} (x t : Addr) (V : Cell) (n : Nat) (f : Nat → Int32) (z : Int32) (fm : Value) (i : Nat) (htab : tab.before sargs s = true) (hfr : 4 ≤ R.frames) (hlo : W + 53 ≤ R.locals) :
    Back l R p e below s sargs yN len W (fun A₁ a₁ => A₁.cells + 0 ≤ R.cells ∧ A₁.slots + 0 ≤ R.slots ∧ P x t V n f z fm i a₁ A₁.U) (fun A₁ _ v₁ B₁ => E f i v₁ A₁.U B₁.U ∧ B₁.locs = A₁.locs ++ [] ∧ B₁.cells = A₁.cells + 0 ∧ B₁.slots = A₁.slots + 0) :=
  (law l x t V n f z fm i).pays htab hfr (by omega)
end ChN
end StrChars
namespace StrChars.Road
open Jvm Sem ClassFile Op Lib Jvm.Stand Jvm.Free Jvm.Free.XT
open Jvm.Lib.Cold (StaticIs)
/-- the words of String.charAt(int), the Latin-1 road alone -/
abbrev wordsChN : List Jvm.Cond := [.code ChN.yN ChN.yB 2 (some .char), .initialized ST, .fieldLink ST 9 ST "value" "[B", .fieldLink ST 38 ST "COMPACT_STRINGS" "Z", .fieldLink ST 15 ST "coder" "B", .code IsL.yN IsL.yB 1 (some .boolean), .methodLink ST 492 IsL.yN, .declares IsL.yN, .selects ST IsL.yN IsL.yN, .instanceMethod IsL.yN,
  .methodLink ST 495 LChA.yN, .static LChA.yN, .code LChA.yN LChA.yB 2 (some .char), .initialized "java/lang/StringLatin1", .methodLink "java/lang/StringLatin1" 9 JO.Str_checkIndex.yN, .static JO.Str_checkIndex.yN, .code JO.Str_checkIndex.yN JO.Str_checkIndex.yB 2 none,
  .fieldLink ST 1053 "jdk/internal/util/Preconditions" "SIOOBE_FORMATTER" "Ljava/util/function/BiFunction;", .methodLink ST 1059 JC.PreCheck.yN, .static JC.PreCheck.yN, .code JC.PreCheck.yN JC.PreCheck.yB 3 (some .int), .initialized "jdk/internal/util/Preconditions"]
theorem tabChN_of {a : Array Value} {s : State} (h : ∀ w ∈ wordsChN, w.before a s = true) : ChN.tab.before a s = true := by
  have hp : JC.PreCheck.tab.before a s = true := unparts (wk h (.code JC.PreCheck.yN JC.PreCheck.yB 3 (some .int))) (wks h (.initialized JC.PreCheck.yN.cls :: JC.PreCheck.site))
  have qk := consq hp h
  have hk : JO.Str_checkIndex.tab.before a s = true := unparts (wk qk (.code JO.Str_checkIndex.yN JO.Str_checkIndex.yB 2 none)) (wks qk (.initialized JO.Str_checkIndex.yN.cls :: JO.Str_checkIndex.site))
  have ql := consq hk h
  have hl : LChA.tab.before a s = true := unparts (wk ql (.code LChA.yN LChA.yB 2 (some .char))) (wks ql (.initialized LChA.yN.cls :: LChA.site))
  have hi : IsL.tab.before a s = true := unparts (wk h (.code IsL.yN IsL.yB 1 (some .boolean))) (wks h (.initialized IsL.yN.cls :: IsL.site))
  have q := consq hi (consq hl h)
  exact unparts (wk q (.code ChN.yN ChN.yB 2 (some .char))) (wks q (.initialized ChN.yN.cls :: ChN.site))
theorem movedChN {Z s : State} {a0 args : Array Value} (hZ : Z.Warmed39 s.vm) (hw : ∀ d ∈ wordsChN, d.before a0 Z = true) : ∀ d ∈ wordsChN, d.before args s = true := fun d hd => by
  have t : ∀ d ∈ wordsChN, (d.onTables && d.keepsFace) = true := by decide +kernel
  exact RoadKit.mv hZ (hw d hd) (t d hd)
/-- **charAt(i) OF A LATIN-1 STRING**, i < n: the char -/
theorem chN {p : Program} {l : Launch} {e : Env} {R : Room} {s : State} {args : Array Value} {below : List Frame} {len W : Nat} {Z : State} {a0 : Array Value} {h : Heap} (hZ : Z.Warmed39 s.vm) (hw : ∀ d ∈ wordsChN, d.before a0 Z = true) {kI : Nat} (wi : (Jvm.Cond.instantiable ST kI).before a0 Z = true)
    {x t : Addr} {kb : ClassId} {cs : List Int32} {N2 z : Int32} {vs : List Value} {fm : Value} {i : Nat} {j : Int32} (E : RoadKit.Exa Z h x ST) (V : RoadKit.Fld Z h x ST "value" "[B" (.ref t)) (C : RoadKit.Fld Z h x ST "coder" "B" (.int 0)) (K : RoadKit.Arv Z h t kb .byte N2 vs (.int 0)) (hc : CodA cs 0 N2 vs) (hb : ∀ c ∈ cs, ¬ c < 0 ∧ ¬ (65535 : Int32) < c)
    (S : RoadKit.Sta Z h ST "COMPACT_STRINGS" "Z" (.int z)) (hz : ¬ z = 0) (F : RoadKit.Sta Z h "jdk/internal/util/Preconditions" "SIOOBE_FORMATTER" "Ljava/util/function/BiFunction;" fm) (rf : fm.isRef = true) (l2 : cs.length ≤ 4000) (hi : i < cs.length) (hj : j = Int32.ofNat i) (hfr : 4 ≤ R.frames) (hlo : W + 53 ≤ R.locals) :
    Back l R p e below s args (⟨"java/lang/String", "charAt", "(I)C"⟩ : MethodName) len W (fun P a => a = #[.ref x, .int j] ∧ P.U.heap = h ∧ P.cells + 0 ≤ R.cells ∧ P.slots + 0 ≤ R.slots)
      (fun P _ v B => ∃ L, (v = some (.int (cs.getD i 0)) ∧ L = [] ∧ B.U.heap = h) ∧ B.locs = P.locs ++ L ∧ B.cells = P.cells + 0 ∧ B.slots = P.slots + 0) := by
  subst hj
  intro m meth c P g ig mk a X hg hsize hdg hW hn hp'
  obtain ⟨rfl, rfl, r1, r2⟩ := hp'
  have al : Z.vm.Alike P.U.vm := hZ.alike.trans X.warmed.alike
  obtain ⟨A, hx⟩ := txt_of wi al E V C K hc hb l2
  obtain ⟨v, B, X', ⟨⟨hv, hh⟩, hl, hk, hs⟩, st⟩ := ChN.pays x t A cs.length (fun j => cs.getD j 0) z fm i (tabChN_of (movedChN hZ hw)) hfr hlo m meth c P g ig mk _ X hg hsize hdg hW hn ⟨r1, r2, rfl, hx, hi, sta_is al S, hz, sta_is al F, rf⟩
  exact ⟨v, B, X', ⟨[], ⟨hv, rfl, hh⟩, hl, hk, hs⟩, st⟩
/-- what backV says of its String, as the contracts of this text ask it: cs's low bytes, coder 0 -/
theorem codOf {cs : List Int32} {n : Nat} (hn : cs.length = n) (hb : ∀ c ∈ cs, ¬ 255 < c) : CodA cs 0 (Int32.ofNat n) ((cs.map lo8).map Value.int) := Or.inl ⟨rfl, by rw [hn], by simp [List.map_map, Function.comp_def], hb⟩
end StrChars.Road
end Jvm.Pilot.@@N@@

namespace Jvm.Pilot.@@N@@
open Jvm Jvm.ClassFile Sem Op Lib Jvm.Free Jvm.Stand Jvm.LawKit Jvm.RoadKit Bundle Jvm.Pilot.@@N@@.Jvm.D
theorem own_ws {a0 : Array Value} {Z : State} (hw : ∀ d ∈ tables_1, d.before a0 Z = true) : ∀ d ∈ StrChars.Road.words, d.before a0 Z = true := fun d hd => hw d ((by decide +kernel : ∀ d ∈ StrChars.Road.words, d ∈ tables_1) d hd)
theorem own_wsChN {a0 : Array Value} {Z : State} (hw : ∀ d ∈ tables_1, d.before a0 Z = true) : ∀ d ∈ StrChars.Road.wordsChN, d.before a0 Z = true := fun d hd => hw d ((by decide +kernel : ∀ d ∈ StrChars.Road.wordsChN, d ∈ tables_1) d hd)
theorem own_up (cs : List Int32) (h : ∀ c ∈ cs, ¬ c < 0 ∧ ¬ (255 : Int32) < c) : ∀ c ∈ cs, ¬ c < 0 ∧ ¬ (65535 : Int32) < c := fun c hc => ⟨(h c hc).1, fun q => (h c hc).2 (by rw [Int32.lt_iff_toInt_lt] at q ⊢; have e1 : (65535 : Int32).toInt = 65535 := rfl; have e2 : (255 : Int32).toInt = 255 := rfl; omega)⟩
theorem own_and255 (x : Int32) : ∃ k : Fin 256, (x &&& (255 : Int32)) = Int32.ofNat k.val := by
  have h : (x &&& 255).toBitVec.toNat < 256 := by
    simp only [Int32.toBitVec_and, BitVec.toNat_and]
    exact Nat.lt_succ_of_le Nat.and_le_right
  refine ⟨⟨_, h⟩, ?_⟩
  apply Int32.toBitVec_inj.mp
  show _ = BitVec.ofNat 32 _
  rw [BitVec.ofNat_toNat]; simp
/-- a char of one byte -/
def own_byte (c : Int32) : Prop := ¬ c < 0 ∧ ¬ (255 : Int32) < c ∧ nar .char c = c
theorem own_byte_and (x : Int32) : own_byte ((x &&& (255 : Int32)).toUInt32.toUInt16.toUInt32.toInt32) := by
  obtain ⟨k, e⟩ := own_and255 x
  rw [e]
  exact (by decide +kernel : ∀ k : Fin 256, ¬ ((Int32.ofNat k.val).toUInt32.toUInt16.toUInt32.toInt32) < 0 ∧ ¬ (255 : Int32) < ((Int32.ofNat k.val).toUInt32.toUInt16.toUInt32.toInt32) ∧ nar .char ((Int32.ofNat k.val).toUInt32.toUInt16.toUInt32.toInt32) = ((Int32.ofNat k.val).toUInt32.toUInt16.toUInt32.toInt32)) k
theorem own_byte_nar {x : Int32} (h : own_byte x) : own_byte (nar .char x) := by rw [h.2.2]; exact h
theorem own_hp {cs : List Int32} (h : ∀ c ∈ cs, own_byte c) : ∀ c ∈ cs, ¬ c < 0 ∧ ¬ (255 : Int32) < c := fun c hc => ⟨(h c hc).1, (h c hc).2.1⟩
/-- the tables have gained no literal since Z -/
def own_Cold (Z : State) (vm : Vm) : Prop := IB Z vm []
/-- String's empty literal is the object la -/
def own_Hot (Z : State) (la : Addr) (vm : Vm) : Prop := Lit (Z.setVm vm) "java/lang/String" 7 la ∧ IB Z vm [""]
theorem own_ibMv {Z s : State} {vm : Vm} {Ts : List String} (I : IB Z s.vm Ts) (h : s.WarmedH vm) : IB Z vm Ts := by
  obtain ⟨more, h1, h2⟩ := I
  exact ⟨more, by rw [h.interned_eq]; exact h1, h2⟩
theorem own_coldMv {Z s : State} {vm : Vm} (I : own_Cold Z s.vm) (h : s.WarmedH vm) : own_Cold Z vm := own_ibMv I h
theorem own_hotMv {Z s : State} {la : Addr} {vm : Vm} (I : own_Hot Z la s.vm) (h : s.WarmedH vm) : own_Hot Z la vm := ⟨Lit.stays (s := s) (vm0 := s.vm) I.1 h.wide, own_ibMv I.2 h⟩
theorem own_hotLit {Z s : State} {la : Addr} {vm : Vm} (I : own_Hot Z la vm) : Lit (s.setVm vm) "java/lang/String" 7 la := I.1
theorem own_coldIB {Z : State} {vm : Vm} (I : own_Cold Z vm) : ∃ Ts, IB Z vm Ts ∧ "" ∉ Ts ∧ Ts = [] := ⟨[], I, by simp, rfl⟩
theorem own_hotMk {Z s : State} {vm0 vm : Vm} {Ts : List String} {la : Addr} (_ : IB Z vm0 Ts) (I : IB Z vm ("" :: Ts)) (hn : "" ∉ Ts ∧ Ts = []) (L : Lit (s.setVm vm) "java/lang/String" 7 la) : own_Hot Z la vm := ⟨L, hn.2 ▸ I⟩
theorem own_backOfJ {l : Launch} {R : Room} {p : Program} {e : Env} {below : List Frame} {s Z : State} {args a0 : Array Value} {h : Heap} {y : MethodName} {bytes : ByteArray} {maxL : Nat} {ret : Option FieldType} {rm : Room} {len W : Nat} {as' : Array Value} {Q : Option Value → Heap → List Loc → Vm → Prop} {J : Vm → Prop}
    (hM : MetFree l y (head1 [Cond.code y bytes maxL ret] rm) (fun a U => a = as' ∧ Z.Warmed39 U.vm ∧ U.heap = h ∧ J U.vm) (fun _ _ _ _ _ => True) (fun _ U o U' => ∃ v L, o = .returned v ∧ Q v U'.heap L U'.vm ∧ ReturnedEndW U o U' L rm.cells rm.slots))
    (hZ : Z.Warmed39 s.vm) (hJ : ∀ vm, s.WarmedH vm → J vm) (wc : (Cond.code y bytes maxL ret).before a0 Z = true) (wz : (Cond.initialized y.cls).before a0 Z = true) (hf : rm.frames + 1 ≤ R.frames) (hl : W + (maxL + 11) + rm.locals ≤ R.locals) :
    BackS l R p e below s args y len W (fun A a => a = as' ∧ A.U.heap = h ∧ A.cells + rm.cells ≤ R.cells ∧ A.slots + rm.slots ≤ R.slots)
      (fun A _ v B => ∃ L, Q v B.U.heap L B.U.vm ∧ B.locs = A.locs ++ L ∧ B.cells = A.cells + rm.cells ∧ B.slots = A.slots + rm.slots) :=
  BackS.of_freeW (bytes := bytes) (maxL := maxL) (ret := ret) (E := fun _ _ o t L k n => k = rm.cells ∧ n = rm.slots ∧ ∃ v, o = .returned v ∧ Q v t.heap L t.vm) hM hf hl
    (fun m meth c A a Y hp => have hU : Z.Warmed39 A.U.vm := wtrans hZ Y.warmed
      ⟨by show (Cond.and _ .tt).before a A.U = true; rw [Cond.before_and, mv hU wc]; rfl, mv hU wc, mv hU wz, hp.2.2.1, hp.2.2.2⟩)
    (fun m meth c A a g mk Y hp => ⟨hp.1, wtrans hZ Y.warmed, hp.2.1, hJ _ Y.warmed⟩) (fun _ _ _ _ _ _ _ _ _ => trivial)
    (fun _ _ _ _ ⟨v, L, h1, h2, h3⟩ => ⟨L, _, _, h3, rfl, rfl, v, h1, h2⟩)
    (fun m meth c A a g mk v t L k n Y hp _ _ ⟨e1, e2, v', e3, e4⟩ => by cases e3; subst e1 e2; exact ⟨L, e4, rfl, rfl, rfl⟩)
theorem own_sA {a0 : Array Value} {Z : State} (hw : ∀ d ∈ tables_1, d.before a0 Z = true) : ∀ d ∈ Bundle.stringAtoms, d.before a0 Z = true := fun d hd => hw d ((by decide +kernel : ∀ d ∈ Bundle.stringAtoms, d ∈ tables_1) d hd)
/-- the literal of one sign: not yet loaded by this walk, or the object la -/
def own_ColdP (Z : State) (vm : Vm) : Prop := ∃ Ts, IB Z vm Ts ∧ "%" ∉ Ts ∧ True
def own_HotP (Z : State) (la : Addr) (vm : Vm) : Prop := Lit (Z.setVm vm) "com/example/skope/skope/xml/Intake" 64 la
theorem own_coldPMv {Z s : State} {vm : Vm} (I : own_ColdP Z s.vm) (h : s.WarmedH vm) : own_ColdP Z vm := by
  obtain ⟨Ts, h1, h2⟩ := I
  exact ⟨Ts, own_ibMv h1 h, h2⟩
theorem own_hotPMv {Z s : State} {la : Addr} {vm : Vm} (I : own_HotP Z la s.vm) (h : s.WarmedH vm) : own_HotP Z la vm := Lit.stays (s := s) (vm0 := s.vm) I h.wide
theorem own_hotPLit {Z s : State} {la : Addr} {vm : Vm} (I : own_HotP Z la vm) : Lit (s.setVm vm) "com/example/skope/skope/xml/Intake" 64 la := I
theorem own_coldPIB {Z : State} {vm : Vm} (I : own_ColdP Z vm) : ∃ Ts, IB Z vm Ts ∧ "%" ∉ Ts ∧ True := I
theorem own_hotPMk {Z s : State} {vm0 vm : Vm} {Ts : List String} {la : Addr} (_ : IB Z vm0 Ts) (_ : IB Z vm ("%" :: Ts)) (_ : "%" ∉ Ts ∧ True) (L : Lit (s.setVm vm) "com/example/skope/skope/xml/Intake" 64 la) : own_HotP Z la vm := L
/-- a String of known bytes -/
def own_Emp (Z : State) (h : Heap) (la lb : Addr) (lk : ClassId) (z : Int32) (vs : List Value) : Prop := Exa Z h la "java/lang/String" ∧ Fld Z h la "java/lang/String" "coder" "B" (.int (0 : Int32)) ∧ Fld Z h la "java/lang/String" "value" "[B" (.ref lb) ∧ Arv Z h lb lk .byte z vs (.int (0 : Int32))
def own_EOK (Z : State) (h : Heap) (vm : Vm) : Prop := own_Cold Z vm ∨ ∃ la lb lk, own_Hot Z la vm ∧ own_Emp Z h la lb lk (0 : Int32) []
def own_POK (Z : State) (h : Heap) (vm : Vm) : Prop := own_ColdP Z vm ∨ ∃ la lb lk, own_HotP Z la vm ∧ own_Emp Z h la lb lk (1 : Int32) [.int (37 : Int32)]
theorem own_Emp.ext {Z : State} {h h' : Heap} {la lb : Addr} {lk : ClassId} {z : Int32} {vs : List Value} (F : own_Emp Z h la lb lk z vs) (E : Ext h h') : own_Emp Z h' la lb lk z vs := ⟨F.1.ext E, F.2.1.ext E, F.2.2.1.ext E, F.2.2.2.ext E⟩
theorem own_Emp.keep {Z : State} {h h' : Heap} {la lb : Addr} {lk : ClassId} {z : Int32} {vs : List Value} {ws : List Addr} (F : own_Emp Z h la lb lk z vs) (K : Keep h h' ws) (q : la ∉ ws) (q' : lb ∉ ws) : own_Emp Z h' la lb lk z vs := ⟨F.1.keep K, F.2.1.keep K q, F.2.2.1.keep K q, F.2.2.2.keep K q'⟩
theorem own_EOK.mv {Z s : State} {h : Heap} {vm : Vm} (J : own_EOK Z h s.vm) (w : s.WarmedH vm) : own_EOK Z h vm := by
  rcases J with I | ⟨la, lb, lk, I, F⟩
  · exact Or.inl (own_coldMv I w)
  · exact Or.inr ⟨la, lb, lk, own_hotMv I w, F⟩
theorem own_POK.mv {Z s : State} {h : Heap} {vm : Vm} (J : own_POK Z h s.vm) (w : s.WarmedH vm) : own_POK Z h vm := by
  rcases J with I | ⟨la, lb, lk, I, F⟩
  · exact Or.inl (own_coldPMv I w)
  · exact Or.inr ⟨la, lb, lk, own_hotPMv I w, F⟩
theorem own_EOK.toP {Z : State} {h : Heap} {vm : Vm} (J : own_EOK Z h vm) : own_POK Z h vm := by
  rcases J with I | ⟨la, lb, lk, I, F⟩
  · exact Or.inl ⟨[], I, by simp, trivial⟩
  · exact Or.inl ⟨[""], I.2, by simp, trivial⟩
theorem own_POK.ext {Z : State} {h h' : Heap} {vm : Vm} (J : own_POK Z h vm) (E : Ext h h') : own_POK Z h' vm := by
  rcases J with I | ⟨la, lb, lk, I, F⟩
  · exact Or.inl I
  · exact Or.inr ⟨la, lb, lk, I, F.ext E⟩
theorem own_POK.keep {Z : State} {a0 : Array Value} {h h' : Heap} {vm : Vm} {o : Addr} {C : String} {n : Nat} (J : own_POK Z h vm) (K : Keep h h' [o]) (E : Exa Z h o C) (hC : C ≠ "java/lang/String") (w : (Cond.instantiable C n).before a0 Z = true) : own_POK Z h' vm := by
  rcases J with I | ⟨la, lb, lk, I, F⟩
  · exact Or.inl I
  · exact Or.inr ⟨la, lb, lk, I, F.keep K (fun q => Exa.ne E F.1 hC (List.mem_singleton.mp q).symm) (fun q => Exa.neArv E F.2.2.2 w (List.mem_singleton.mp q).symm)⟩
theorem own_POK.keep0 {Z : State} {h h' : Heap} {vm : Vm} (J : own_POK Z h vm) (K : Keep h h' []) : own_POK Z h' vm := by
  rcases J with I | ⟨la, lb, lk, I, F⟩
  · exact Or.inl I
  · exact Or.inr ⟨la, lb, lk, I, F.keep K (by simp) (by simp)⟩
theorem own_EOK.keep0 {Z : State} {h h' : Heap} {vm : Vm} (J : own_EOK Z h vm) (K : Keep h h' []) : own_EOK Z h' vm := by
  rcases J with I | ⟨la, lb, lk, I, F⟩
  · exact Or.inl I
  · exact Or.inr ⟨la, lb, lk, I, F.keep K (by simp) (by simp)⟩
/-- does it begin with the sign -/
def own_isP (cs : List Int32) : Int32 := if cs.getD 0 0 = (37 : Int32) then 1 else 0
theorem own_isP_01 (cs : List Int32) : own_isP cs = 0 ∨ own_isP cs = 1 := by unfold own_isP; split <;> simp
theorem own_isP_n {cs : List Int32} (h : ¬ own_isP cs = (1 : Int32)) : own_isP cs = (0 : Int32) := (own_isP_01 cs).resolve_right h
theorem own_byte_fin {c : Int32} (h : own_byte c) : ∃ k : Fin 256, c = Int32.ofNat k.val := by
  obtain ⟨h1, h2, -⟩ := h
  rw [Int32.lt_iff_toInt_lt] at h1 h2
  have e1 : (0 : Int32).toInt = 0 := rfl
  have e2 : (255 : Int32).toInt = 255 := rfl
  rw [e1] at h1; rw [e2] at h2
  refine ⟨⟨c.toInt.toNat, by omega⟩, Int32.toInt_inj.mp ?_⟩
  rw [Int32.toInt_ofNat_of_lt (by show c.toInt.toNat < _; omega)]
  show c.toInt = ((c.toInt.toNat : Nat) : Int)
  omega
theorem own_i8 {c : Int32} (h : own_byte c) : nar .byte c.toInt8.toInt32 = c.toInt8.toInt32 := by
  obtain ⟨k, rfl⟩ := own_byte_fin h
  exact (by decide +kernel : ∀ k : Fin 256, nar .byte (Int32.ofNat k.val).toInt8.toInt32 = (Int32.ofNat k.val).toInt8.toInt32) k
theorem own_b37 {c : Int32} (h : own_byte c) : c.toInt8.toInt32 = (37 : Int32) ↔ c = (37 : Int32) := by
  obtain ⟨k, rfl⟩ := own_byte_fin h
  exact (by decide +kernel : ∀ k : Fin 256, (Int32.ofNat k.val).toInt8.toInt32 = (37 : Int32) ↔ Int32.ofNat k.val = (37 : Int32)) k
def own_mm (b : Int32) : Int32 := if b = (37 : Int32) then (-1) else 0
theorem own_get0 {cs : List Int32} (hb : ∀ c ∈ cs, own_byte c) : own_byte (cs.getD 0 0) := by
  match cs, hb with
  | [], _ => exact ⟨by decide, by decide, by decide⟩
  | c :: r, hb => exact hb c (by simp)
theorem own_isP_t {cs : List Int32} (hb : ∀ c ∈ cs, own_byte c) (h : own_mm (cs.getD 0 0).toInt8.toInt32 < (0 : Int32)) : own_isP cs = (1 : Int32) := by
  unfold own_mm at h
  split at h
  · rename_i q; exact if_pos ((own_b37 (own_get0 hb)).mp q)
  · exact absurd h (by decide)
theorem own_isP_f {cs : List Int32} (hb : ∀ c ∈ cs, own_byte c) (h : ¬ own_mm (cs.getD 0 0).toInt8.toInt32 < (0 : Int32)) : own_isP cs = (0 : Int32) := by
  unfold own_mm at h
  split at h
  · exact absurd (by decide) h
  · rename_i q; exact if_neg fun z => q ((own_b37 (own_get0 hb)).mpr z)
theorem own_short {cs : List Int32} (hl : cs.length ≤ 2) (h : ((Int32.ofNat cs.length) - (1 : Int32)) < (0 : Int32)) : own_isP cs = (0 : Int32) := by
  match cs, hl, h with
  | [], _, _ => decide
  | [a], _, h => exact absurd h (by show ¬ (Int32.ofNat 1 - 1 < 0); decide)
  | [a, b], _, h => exact absurd h (by show ¬ (Int32.ofNat 2 - 1 < 0); decide)
  | a :: b :: d :: r, hl, _ => exact absurd hl (by simp)
theorem own_pos {cs : List Int32} (hl : cs.length ≤ 2) (h : ¬ ((Int32.ofNat cs.length) - (1 : Int32)) < (0 : Int32)) : (0 : Int32) < Int32.ofNat cs.length := by
  match cs, hl, h with
  | [], _, h => exact absurd (by decide) h
  | [a], _, _ => show (0 : Int32) < Int32.ofNat 1; decide
  | [a, b], _, _ => show (0 : Int32) < Int32.ofNat 2; decide
  | a :: b :: d :: r, hl, _ => exact absurd hl (by simp)
theorem own_short2 {cs : List Int32} (hl : cs.length ≤ 2) (h : ¬ (0 : Int32) < (Int32.ofNat cs.length)) : own_isP cs = (0 : Int32) := by
  match cs, hl, h with
  | [], _, _ => decide
  | [a], _, h => exact absurd (by show (0 : Int32) < Int32.ofNat 1; decide) h
  | [a, b], _, h => exact absurd (by show (0 : Int32) < Int32.ofNat 2; decide) h
  | a :: b :: d :: r, hl, _ => exact absurd hl (by simp)
theorem own_len0 {cs : List Int32} (h : (0 : Int32) < (Int32.ofNat cs.length)) : 0 < cs.length := by
  match cs, h with
  | [], h => exact absurd h (by decide)
  | a :: r, _ => exact Nat.zero_lt_succ _
theorem own_v0 (cs : List Int32) : ((cs.map (fun c => c.toInt8.toInt32)).map Value.int).getD ((0 : Int32)).toNatClampNeg (.int (0 : Int32)) = .int ((cs.getD 0 0).toInt8.toInt32) := by cases cs <;> rfl
theorem own_shr0 (N : Int32) : (N >>> ((0 : Int32) &&& 31)) = N := by
  apply Int32.toBitVec_inj.mp
  simp
def own_ru (p g l : Int32) : Int32 := if p = (0 : Int32) then (if g = (0 : Int32) then 0 else if l = (0 : Int32) then 0 else 1) else 1
theorem ef_3c (m : MethodId) (z0 : Addr) (z1 : Addr) : entryFrame m #[(.ref z0), (.ref z1), (.int (0 : Int32)), (.int (0 : Int32)), .null] 6 = mkF m 0 #[.val (.ref z0), .val (.ref z1), .val (.int (0 : Int32)), .val (.int (0 : Int32)), .val .null, .unset] [] := by
  all_goals first | (simp [entryFrame, mkF, argsToLocals, Value.category]; done) | rfl
theorem pn_0 : plainName "java/lang/String" = true := by first | (simp [plainName, overriddenIn]; done) | decide +kernel
theorem d3_0 : decode jdk_42_method_149_code 0 = .ok (.aload_n 0, 1) := by decide +kernel
theorem w_15 {a0 : Array Value} {Z : State} (hw : ∀ d ∈ tables_1, d.before a0 Z = true) : (Jvm.Cond.methodLink "java/lang/String" (1 : Nat) ({ cls := "java/lang/Object", name := "<init>", desc := "()V" } : Jvm.MethodName)).before a0 Z = true := hw _ (List.mem_of_getElem? (i := 15) rfl)
theorem d3_1 : decode jdk_42_method_149_code 1 = .ok (.invokespecial 1, 3) := by decide +kernel
theorem w_16 {a0 : Array Value} {Z : State} (hw : ∀ d ∈ tables_1, d.before a0 Z = true) : (Jvm.Cond.instanceMethod ({ cls := "java/lang/Object", name := "<init>", desc := "()V" } : Jvm.MethodName)).before a0 Z = true := hw _ (List.mem_of_getElem? (i := 16) rfl)
theorem w_17 {a0 : Array Value} {Z : State} (hw : ∀ d ∈ tables_1, d.before a0 Z = true) : (Jvm.Cond.code ({ cls := "java/lang/Object", name := "<init>", desc := "()V" } : Jvm.MethodName) object_method_1_code (1 : Nat) (Option.none : Option Jvm.ClassFile.FieldType)).before a0 Z = true := hw _ (List.mem_of_getElem? (i := 17) rfl)
theorem d3_4 : decode jdk_42_method_149_code 4 = .ok (.iload_n 3, 1) := by decide +kernel
theorem d3_5 : decode jdk_42_method_149_code 5 = .ok (.ifCond .ne 22, 3) := by decide +kernel
theorem d3_8 : decode jdk_42_method_149_code 8 = .ok (.aload_n 0, 1) := by decide +kernel
theorem d3_9 : decode jdk_42_method_149_code 9 = .ok (.ldc 7, 2) := by decide +kernel
theorem w_18 {a0 : Array Value} {Z : State} (hw : ∀ d ∈ tables_1, d.before a0 Z = true) : (Jvm.Cond.stringLink "java/lang/String" (7 : Nat) "").before a0 Z = true := hw _ (List.mem_of_getElem? (i := 18) rfl)
theorem w_24 {a0 : Array Value} {Z : State} (hw : ∀ d ∈ tables_1, d.before a0 Z = true) : (Jvm.Cond.fieldLink "java/lang/String" (9 : Nat) "java/lang/String" "value" "[B").before a0 Z = true := hw _ (List.mem_of_getElem? (i := 24) rfl)
theorem d3_11 : decode jdk_42_method_149_code 11 = .ok (.getfield 9, 3) := by decide +kernel
theorem w_20 {a0 : Array Value} {Z : State} (hw : ∀ d ∈ tables_1, d.before a0 Z = true) : (Jvm.Cond.laysFinal "java/lang/String" "java/lang/String" "value" "[B").before a0 Z = true := hw _ (List.mem_of_getElem? (i := 20) rfl)
theorem w_5 {a0 : Array Value} {Z : State} (hw : ∀ d ∈ tables_1, d.before a0 Z = true) : (Jvm.Cond.instantiable "java/lang/String" (4 : Nat)).before a0 Z = true := hw _ (List.mem_of_getElem? (i := 5) rfl)
theorem d3_14 : decode jdk_42_method_149_code 14 = .ok (.putfield 9, 3) := by decide +kernel
theorem w_21 {a0 : Array Value} {Z : State} (hw : ∀ d ∈ tables_1, d.before a0 Z = true) : (Jvm.Cond.laysFinal "java/lang/String" "java/lang/String" "coder" "B").before a0 Z = true := hw _ (List.mem_of_getElem? (i := 21) rfl)
theorem sn_0 {a0 : Array Value} {Z : State} (hw : ∀ d ∈ tables_1, d.before a0 Z = true) : Jvm.RoadKit.slotOf Z "java/lang/String" "coder" "B" ≠ Jvm.RoadKit.slotOf Z "java/lang/String" "value" "[B" := slot_ne (Or.inr (w_21 hw)) (Or.inr (w_20 hw)) (by decide) (t := .byte) (t' := (.array .byte)) (by decide) (by decide)
theorem d3_17 : decode jdk_42_method_149_code 17 = .ok (.aload_n 0, 1) := by decide +kernel
theorem d3_18 : decode jdk_42_method_149_code 18 = .ok (.ldc 7, 2) := by decide +kernel
theorem w_25 {a0 : Array Value} {Z : State} (hw : ∀ d ∈ tables_1, d.before a0 Z = true) : (Jvm.Cond.fieldLink "java/lang/String" (15 : Nat) "java/lang/String" "coder" "B").before a0 Z = true := hw _ (List.mem_of_getElem? (i := 25) rfl)
theorem d3_20 : decode jdk_42_method_149_code 20 = .ok (.getfield 15, 3) := by decide +kernel
theorem d3_23 : decode jdk_42_method_149_code 23 = .ok (.putfield 15, 3) := by decide +kernel
theorem sn_1 {a0 : Array Value} {Z : State} (hw : ∀ d ∈ tables_1, d.before a0 Z = true) : Jvm.RoadKit.slotOf Z "java/lang/String" "value" "[B" ≠ Jvm.RoadKit.slotOf Z "java/lang/String" "coder" "B" := slot_ne (Or.inr (w_20 hw)) (Or.inr (w_21 hw)) (by decide) (t := (.array .byte)) (t' := .byte) (by decide) (by decide)
theorem d3_26 : decode jdk_42_method_149_code 26 = .ok (.return_, 1) := by decide +kernel
def Q3c (Z : State) (a1 : Addr) (a2 : Addr) (h0 : Heap) (n0 : Nat) (v : Option Value) (h : Heap) (L : List Loc) (ve : Vm) : Prop := ∃ la : Addr, ∃ lb : Addr, ∃ lk : ClassId, v = none ∧ Fr n0 L ∧ Keep h0 h [a1] ∧ Exa Z h a1 "java/lang/String" ∧ Fld Z h a1 "java/lang/String" "coder" "B" (.int (0 : Int32)) ∧ Fld Z h a1 "java/lang/String" "value" "[B" (.ref lb) ∧ (Arv Z h lb lk .byte (0 : Int32) [] (.int (0 : Int32))) ∧ Exa Z h la "java/lang/String" ∧ Fld Z h la "java/lang/String" "coder" "B" (.int (0 : Int32)) ∧ Fld Z h la "java/lang/String" "value" "[B" (.ref lb) ∧ la ≠ a1 ∧ own_Hot Z la ve
set_option maxRecDepth 65536 in
set_option maxHeartbeats 40000000 in
theorem rm3c (l : Launch) (Z : State) (a0 : Array Value) (hw : ∀ d ∈ tables_1, d.before a0 Z = true) (wsC : List Jvm.Cond) (a1 : Addr) (a2 : Addr) (h0 : Heap) (n0 : Nat) (Z0 : n0 ≤ h0.size) (E_a1 : Exa Z h0 a1 "java/lang/String") (g_a1 : n0 ≤ a1) (F_a1_value : Fld Z h0 a1 "java/lang/String" "value" "[B" .null) (F_a1_coder : Fld Z h0 a1 "java/lang/String" "coder" "B" (.int (0 : Int32))) (OLD : Old Z n0 h0) (hCH : Jvm.Lit.constHeld Z "java/lang/String" 7) (hCW : Jvm.Lit.compactW.before a0 Z = true) :
    MetFree l (⟨"java/lang/String", "<init>", "([CIILjava/lang/Void;)V"⟩ : MethodName) (head1 (Jvm.Cond.code (⟨"java/lang/String", "<init>", "([CIILjava/lang/Void;)V"⟩ : MethodName) jdk_42_method_149_code 6 none :: wsC) ({ frames := 1, cells := 2, slots := 4, locals := 12 } : Room)) (fun a U => a = #[(.ref a1), (.ref a2), (.int (0 : Int32)), (.int (0 : Int32)), .null] ∧ Z.Warmed39 U.vm ∧ U.heap = h0 ∧ own_Cold Z U.vm) (fun _ _ _ _ _ => True) (fun _ U o U' => ∃ v L, o = .returned v ∧ Q3c Z a1 a2 h0 n0 v U'.heap L U'.vm ∧ ReturnedEndW U o U' L ({ frames := 1, cells := 2, slots := 4, locals := 12 } : Room).cells ({ frames := 1, cells := 2, slots := 4, locals := 12 } : Room).slots) := by
  refine MetFree.of_bodySF (plainFor_of_name pn_0) hisR ?_
  intro p e s0 m args below meth c s₁ Bd hml0 hP hK
  obtain ⟨rfl, hZ, hh, IB0⟩ := hP
  have hx := Bd.exec
  have hby := Bd.bytes
  have hml : c.maxLocals = 6 := hml0
  obtain ⟨vmw, hvw⟩ : ∃ z, z = s0.vm := ⟨_, rfl⟩
  obtain ⟨s, hsE⟩ : ∃ z, z = s0.setVm vmw := ⟨_, rfl⟩
  have SI : s0.Since vmw 0 := by rw [hvw]; exact (State.WarmedH.refl s0).since 0
  have W0 : 0 ≤ h0.size := Nat.zero_le _
  have hss : s = s0 := by rw [hsE, hvw]; rfl
  rw [← hss] at hZ
  replace IB0 : own_Cold Z vmw := by rw [hvw]; exact IB0
  have hown : s.vm.findClass "java/lang/String" = some m.cls := by rw [hss]; exact findClass_of_methodNamed Bd.named
  have hnm := (name_of_methodNamed Bd.named Bd.method).1
  have X0 : Stand p l e ({ frames := 1, cells := 2, slots := 4, locals := 12 } : Room) s m #[(.ref a1), (.ref a2), (.int (0 : Int32)), (.int (0 : Int32)), .null] below meth c s₁ [] 0 0 := by rw [hss]; exact Stand.of_body Bd
  clear hss hvw
  skip
  have e0 : s₁.heap = h0 := by rw [← hh, Bd.state]; rfl
  have NF := Fr.nil n0
  have KP : Keep h0 h0 [a1] := Keep.refl h0 _
  refine WP.go ?_
  refine WP.cast (ef_3c m a1 a2) ?_
  refine WP.name ?_
  intro G hG
  refine WP.st (T' := s₁) (f' := (mkF m 1 #[.val (.ref a1), .val (.ref a2), .val (.int (0 : Int32)), .val (.int (0 : Int32)), .val .null, .unset] [(.ref a1)])) (fun t k => ?_) ?_
  · refine XS.aloadN X0.here hx rfl (hb hby d3_0) rfl rfl ?_
    exact k
  obtain ⟨T1, X1, e1, st1⟩ := initO X0 hx hZ hown (w_15 hw) (w_16 hw) (w_17 hw) e0 (g := (mkF m 1 #[.val (.ref a1), .val (.ref a2), .val (.int (0 : Int32)), .val (.int (0 : Int32)), .val .null, .unset] [(.ref a1)])) rfl (by rw [hml]; rfl) rfl (hb hby d3_1) (by decide) (W := 0) (by show 2 * 0 + _ ≤ _; exact Nat.le_of_eq rfl) (by decide)
  refine WP.st st1 ?_
  clear st1
  show WP p.tables e below _ T1 (mkF m 4 #[.val (.ref a1), .val (.ref a2), .val (.int (0 : Int32)), .val (.int (0 : Int32)), .val .null, .unset] [])
  refine WP.st (T' := T1) (f' := (mkF m 9 #[.val (.ref a1), .val (.ref a2), .val (.int (0 : Int32)), .val (.int (0 : Int32)), .val .null, .unset] [(.ref a1)])) (fun t k => ?_) ?_
  · refine XS.iloadN X1.here hx rfl (hb hby d3_4) rfl ?_
    show Steps p.tables e below (T1.setTop (mkF m 5 #[.val (.ref a1), .val (.ref a2), .val (.int (0 : Int32)), .val (.int (0 : Int32)), .val .null, .unset] [(.int (0 : Int32))])) t
    refine XS.ifNo X1.here hx rfl (hb hby d3_5) rfl ((if0 _ _).trans (teq (by decide : (0 : Int32) = (0 : Int32))).2) ?_
    show Steps p.tables e below (T1.setTop (mkF m 8 #[.val (.ref a1), .val (.ref a2), .val (.int (0 : Int32)), .val (.int (0 : Int32)), .val .null, .unset] [])) t
    refine XS.aloadN X1.here hx rfl (hb hby d3_8) rfl rfl ?_
    exact k
  subst hsE
  obtain ⟨Ts2, IBx2, hnt2⟩ := own_coldIB IB0
  obtain ⟨la2, T2, h2, kw2, lb2, lk2, X2, e2, E2, SI2, Wn2, hZ2, hown2, E_la2, F_la2_coder, F_la2_value, V_lb2, -, -, IBn2, LT2, st2⟩ := ldcSVL (s := s0) (vm0 := vmw) (Ts := Ts2) X1 hx hZ hown (w_18 hw) (own_sA hw) e1 SI W0 (Fr.nil _) (fun b cl q => by rw [hh]; exact OLD.2.2 b cl q) IBx2 hnt2.1 hCH hCW (vs := []) (z := 0) ⟨by first | decide | (intro c hc; simp at hc), by first | rfl | decide⟩ (by decide) (by decide) (g := (mkF m 9 #[.val (.ref a1), .val (.ref a2), .val (.int (0 : Int32)), .val (.int (0 : Int32)), .val .null, .unset] [(.ref a1)])) rfl (hb hby d3_9) (n := 0) (by decide) (by decide) (by decide) (by decide)
  refine WP.st st2 ?_
  clear st2
  replace LT2 := own_hotMk IBx2 IBn2 hnt2 LT2
  clear IBn2
  replace E_a1 := E_a1.ext E2
  replace F_a1_value := F_a1_value.ext E2
  replace F_a1_coder := F_a1_coder.ext E2
  replace OLD := OLD.ext E2
  replace Z0 := Nat.le_trans Z0 E2.1
  replace W0 := Nat.le_trans W0 E2.1
  replace KP := KP.ext E2
  clear W0
  have W0 := Wn2
  clear Wn2
  clear hZ hown SI IB0
  obtain ⟨vmw, hvw⟩ : ∃ z, z = T2.vm := ⟨_, rfl⟩
  replace hZ2 : Z.Warmed39 vmw := by rw [hvw]; exact hZ2
  replace hown2 : vmw.findClass "java/lang/String" = some m.cls := by rw [hvw]; exact hown2
  have SI := SI2
  clear SI2
  rw [← hvw] at SI
  have LT : own_Hot Z la2 vmw := by rw [hvw]; exact LT2
  clear LT2
  obtain ⟨s, hsE⟩ : ∃ z, z = s0.setVm vmw := ⟨_, rfl⟩
  have hX : ∃ LL, Stand p l e ({ frames := 1, cells := 2, slots := 4, locals := 12 } : Room) s m #[(.ref a1), (.ref a2), (.int (0 : Int32)), (.int (0 : Int32)), .null] below meth c T2 LL 2 4 ∧ Fr n0 LL := ⟨_, (by rw [hsE, hvw]; exact X2), NF⟩
  clear X2 NF
  obtain ⟨LL2, X2, NF⟩ := hX
  clear hvw
  have hZ : Z.Warmed39 s.vm := by rw [hsE]; exact hZ2
  have hown : s.vm.findClass "java/lang/String" = some m.cls := by rw [hsE]; exact hown2
  clear hZ2 hown2
  show WP p.tables e below _ T2 (mkF m 11 #[.val (.ref a1), .val (.ref a2), .val (.int (0 : Int32)), .val (.int (0 : Int32)), .val .null, .unset] [(.ref la2), (.ref a1)])
  obtain ⟨T3, X3, e3, st3⟩ := getF X2 hx hZ hown (host := "") (Or.inl (w_24 hw)) Via.refl e2 F_la2_value (g := (mkF m 11 #[.val (.ref a1), .val (.ref a2), .val (.int (0 : Int32)), .val (.int (0 : Int32)), .val .null, .unset] [(.ref la2), (.ref a1)])) rfl rfl (hb hby d3_11)
  refine WP.st st3 ?_
  clear st3
  show WP p.tables e below _ T3 (mkF m 14 #[.val (.ref a1), .val (.ref a2), .val (.int (0 : Int32)), .val (.int (0 : Int32)), .val .null, .unset] [(.ref lb2), (.ref a1)])
  obtain ⟨T4, h4, X4, e4, W4, st4⟩ := putF X3 hx hZ hown (host := "") (Or.inl (w_24 hw)) Via.refl e3 F_a1_value E_a1 (Or.inr ⟨(w_20 hw), rfl, hnm⟩) (w_5 hw) (ty := (.array .byte)) (by decide) rfl rfl (g := (mkF m 14 #[.val (.ref a1), .val (.ref a2), .val (.int (0 : Int32)), .val (.int (0 : Int32)), .val .null, .unset] [(.ref lb2), (.ref a1)])) rfl rfl (hb hby d3_14)
  refine WP.st st4 ?_
  clear st4
  have ne_la2_a1 : la2 ≠ a1 := Fld.ne F_la2_value F_a1_value nofun
  have ne_a1_lb2 : a1 ≠ lb2 := Exa.neArv E_a1 V_lb2 (w_5 hw)
  replace E_a1 := E_a1.wr W4
  replace F_a1_value := F_a1_value.same W4
  replace F_a1_coder := F_a1_coder.other W4 (Or.inr (sn_0 hw))
  replace OLD := OLD.wr W4 g_a1
  replace E_la2 := E_la2.wr W4
  replace F_la2_coder := F_la2_coder.other W4 (Or.inl ne_la2_a1)
  replace F_la2_value := F_la2_value.other W4 (Or.inl ne_la2_a1)
  replace V_lb2 := V_lb2.other W4 (Ne.symm ne_a1_lb2)
  replace Z0 := Nat.le_trans Z0 (Keep.of_wr W4).1
  replace W0 := Nat.le_trans W0 (Keep.of_wr W4).1
  replace KP := KP.wr W4 (Or.inl (List.mem_of_getElem? (i := 0) rfl))
  replace NF := Fr.snoc X4 NF g_a1
  clear W4
  have hXN : ∃ LL, Stand p l e ({ frames := 1, cells := 2, slots := 4, locals := 12 } : Room) s m #[(.ref a1), (.ref a2), (.int (0 : Int32)), (.int (0 : Int32)), .null] below meth c T4 LL 2 4 ∧ Fr n0 LL := ⟨_, X4, NF⟩
  clear X4 NF
  obtain ⟨LL5, X4, NF⟩ := hXN
  show WP p.tables e below _ T4 (mkF m 17 #[.val (.ref a1), .val (.ref a2), .val (.int (0 : Int32)), .val (.int (0 : Int32)), .val .null, .unset] [])
  refine WP.st (T' := T4) (f' := (mkF m 18 #[.val (.ref a1), .val (.ref a2), .val (.int (0 : Int32)), .val (.int (0 : Int32)), .val .null, .unset] [(.ref a1)])) (fun t k => ?_) ?_
  · refine XS.aloadN X4.here hx rfl (hb hby d3_17) rfl rfl ?_
    exact k
  have st6 := ldcAgain (s := s0) (vm0 := vmw) (a := la2) (by have q := X4; rw [hsE] at q; exact q) hx (by have q := hZ; rw [hsE] at q; exact q) (by have q := hown; rw [hsE] at q; exact q) (w_18 hw) (own_hotLit LT) (g := (mkF m 18 #[.val (.ref a1), .val (.ref a2), .val (.int (0 : Int32)), .val (.int (0 : Int32)), .val .null, .unset] [(.ref a1)])) rfl (hb hby d3_18)
  refine WP.st st6 ?_
  clear st6
  show WP p.tables e below _ T4 (mkF m 20 #[.val (.ref a1), .val (.ref a2), .val (.int (0 : Int32)), .val (.int (0 : Int32)), .val .null, .unset] [(.ref la2), (.ref a1)])
  obtain ⟨T7, X7, e7, st7⟩ := getF X4 hx hZ hown (host := "") (Or.inl (w_25 hw)) Via.refl e4 F_la2_coder (g := (mkF m 20 #[.val (.ref a1), .val (.ref a2), .val (.int (0 : Int32)), .val (.int (0 : Int32)), .val .null, .unset] [(.ref la2), (.ref a1)])) rfl rfl (hb hby d3_20)
  refine WP.st st7 ?_
  clear st7
  show WP p.tables e below _ T7 (mkF m 23 #[.val (.ref a1), .val (.ref a2), .val (.int (0 : Int32)), .val (.int (0 : Int32)), .val .null, .unset] [(.int (0 : Int32)), (.ref a1)])
  obtain ⟨T8, h8, X8, e8, W8, st8⟩ := putFN X7 hx hZ hown (w_25 hw) Via.refl e7 F_a1_coder E_a1 (Or.inr ⟨(w_21 hw), rfl, hnm⟩) (w_5 hw) (ty := .byte) (v := (.int (0 : Int32))) (v' := (.int (0 : Int32))) (by decide) rfl (by decide) (g := (mkF m 23 #[.val (.ref a1), .val (.ref a2), .val (.int (0 : Int32)), .val (.int (0 : Int32)), .val .null, .unset] [(.int (0 : Int32)), (.ref a1)])) rfl rfl (hb hby d3_23)
  refine WP.st st8 ?_
  clear st8
  replace E_a1 := E_a1.wr W8
  replace F_a1_value := F_a1_value.other W8 (Or.inr (sn_1 hw))
  replace F_a1_coder := F_a1_coder.same W8
  replace OLD := OLD.wr W8 g_a1
  replace E_la2 := E_la2.wr W8
  replace F_la2_coder := F_la2_coder.other W8 (Or.inl ne_la2_a1)
  replace F_la2_value := F_la2_value.other W8 (Or.inl ne_la2_a1)
  replace V_lb2 := V_lb2.other W8 (Ne.symm ne_a1_lb2)
  replace Z0 := Nat.le_trans Z0 (Keep.of_wr W8).1
  replace W0 := Nat.le_trans W0 (Keep.of_wr W8).1
  replace KP := KP.wr W8 (Or.inl (List.mem_of_getElem? (i := 0) rfl))
  replace NF := Fr.snoc X8 NF g_a1
  clear W8
  have hXN : ∃ LL, Stand p l e ({ frames := 1, cells := 2, slots := 4, locals := 12 } : Room) s m #[(.ref a1), (.ref a2), (.int (0 : Int32)), (.int (0 : Int32)), .null] below meth c T8 LL 2 4 ∧ Fr n0 LL := ⟨_, X8, NF⟩
  clear X8 NF
  obtain ⟨LL9, X8, NF⟩ := hXN
  show WP p.tables e below _ T8 (mkF m 26 #[.val (.ref a1), .val (.ref a2), .val (.int (0 : Int32)), .val (.int (0 : Int32)), .val .null, .unset] [])
  subst hG
  subst hsE
  obtain ⟨fs, hr, hrun, hended, hEW⟩ := X8.leaveW SI (Nat.le_trans W0 (Nat.le_of_eq (by rw [e8]))) (v := none) (fun _ => rfl)
  refine WP.fin ⟨_, _, ?_, hrun, hended, _, _, rfl, ?_, hEW.1, hEW.2.1, hEW.2.2.1, hEW.2.2.2.mono (by decide) (by decide)⟩
  · exact X8.returnOut hx Bd.returns (hb hby d3_26) hr
  · show Q3c Z a1 a2 h0 n0 _ T8.heap _ T8.vm
    rw [e8]
    exact ⟨la2, lb2, lk2, rfl, NF, KP, E_a1, F_a1_coder, F_a1_value, V_lb2, E_la2, F_la2_coder, F_la2_value, ne_la2_a1, (own_hotMv (s := s0.setVm vmw) LT X8.warmed)⟩
theorem ef_2c (m : MethodId) (z0 : Addr) (z1 : Addr) : entryFrame m #[(.ref z0), (.ref z1)] 2 = mkF m 0 #[.val (.ref z0), .val (.ref z1)] [] := by
  all_goals first | (simp [entryFrame, mkF, argsToLocals, Value.category]; done) | rfl
theorem d2_0 : decode jdk_42_method_3_code 0 = .ok (.aload_n 0, 1) := by decide +kernel
theorem d2_1 : decode jdk_42_method_3_code 1 = .ok (.aload_n 1, 1) := by decide +kernel
theorem d2_2 : decode jdk_42_method_3_code 2 = .ok (.iconst 0, 1) := by decide +kernel
theorem d2_3 : decode jdk_42_method_3_code 3 = .ok (.aload_n 1, 1) := by decide +kernel
theorem d2_4 : decode jdk_42_method_3_code 4 = .ok (.arraylength, 1) := by decide +kernel
theorem d2_5 : decode jdk_42_method_3_code 5 = .ok (.aconst_null, 1) := by decide +kernel
theorem w_11 {a0 : Array Value} {Z : State} (hw : ∀ d ∈ tables_1, d.before a0 Z = true) : (Jvm.Cond.methodLink "java/lang/String" (27 : Nat) ({ cls := "java/lang/String", name := "<init>", desc := "([CIILjava/lang/Void;)V" } : Jvm.MethodName)).before a0 Z = true := hw _ (List.mem_of_getElem? (i := 11) rfl)
theorem d2_6 : decode jdk_42_method_3_code 6 = .ok (.invokespecial 27, 3) := by decide +kernel
theorem w_14 {a0 : Array Value} {Z : State} (hw : ∀ d ∈ tables_1, d.before a0 Z = true) : (Jvm.Cond.code ({ cls := "java/lang/String", name := "<init>", desc := "([CIILjava/lang/Void;)V" } : Jvm.MethodName) jdk_42_method_149_code (6 : Nat) (Option.none : Option Jvm.ClassFile.FieldType)).before a0 Z = true := hw _ (List.mem_of_getElem? (i := 14) rfl)
theorem w_6 {a0 : Array Value} {Z : State} (hw : ∀ d ∈ tables_1, d.before a0 Z = true) : (Jvm.Cond.initialized "java/lang/String").before a0 Z = true := hw _ (List.mem_of_getElem? (i := 6) rfl)
theorem pd_0 : parseMethodDescriptor "([CIILjava/lang/Void;)V" = some ⟨[(.array .char), .int, .int, (.object "java/lang/Void")], none⟩ := by decide +kernel
theorem w_12 {a0 : Array Value} {Z : State} (hw : ∀ d ∈ tables_1, d.before a0 Z = true) : (Jvm.Cond.instanceMethod ({ cls := "java/lang/String", name := "<init>", desc := "([CIILjava/lang/Void;)V" } : Jvm.MethodName)).before a0 Z = true := hw _ (List.mem_of_getElem? (i := 12) rfl)
theorem d2_9 : decode jdk_42_method_3_code 9 = .ok (.return_, 1) := by decide +kernel
def Q2c (Z : State) (a1 : Addr) (a2 : Addr) (ka : ClassId) (vs : List Value) (h0 : Heap) (n0 : Nat) (v : Option Value) (h : Heap) (L : List Loc) (ve : Vm) : Prop := ∃ la : Addr, ∃ lb : Addr, ∃ lk : ClassId, v = none ∧ Fr n0 L ∧ Keep h0 h [a1] ∧ Exa Z h a1 "java/lang/String" ∧ Fld Z h a1 "java/lang/String" "coder" "B" (.int (0 : Int32)) ∧ Fld Z h a1 "java/lang/String" "value" "[B" (.ref lb) ∧ (Arv Z h lb lk .byte (0 : Int32) [] (.int (0 : Int32))) ∧ Exa Z h la "java/lang/String" ∧ Fld Z h la "java/lang/String" "coder" "B" (.int (0 : Int32)) ∧ Fld Z h la "java/lang/String" "value" "[B" (.ref lb) ∧ la ≠ a1 ∧ own_Hot Z la ve
set_option maxRecDepth 65536 in
set_option maxHeartbeats 40000000 in
theorem rm2c (l : Launch) (Z : State) (a0 : Array Value) (hw : ∀ d ∈ tables_1, d.before a0 Z = true) (wsC : List Jvm.Cond) (a1 : Addr) (a2 : Addr) (ka : ClassId) (vs : List Value) (h0 : Heap) (n0 : Nat) (Z0 : n0 ≤ h0.size) (E_a1 : Exa Z h0 a1 "java/lang/String") (g_a1 : n0 ≤ a1) (F_a1_value : Fld Z h0 a1 "java/lang/String" "value" "[B" .null) (F_a1_coder : Fld Z h0 a1 "java/lang/String" "coder" "B" (.int (0 : Int32))) (V_a2 : Arv Z h0 a2 ka .char (0 : Int32) vs (.int (0 : Int32))) (OLD : Old Z n0 h0) (hCH : Jvm.Lit.constHeld Z "java/lang/String" 7) (hCW : Jvm.Lit.compactW.before a0 Z = true) :
    MetFree l (⟨"java/lang/String", "<init>", "([C)V"⟩ : MethodName) (head1 (Jvm.Cond.code (⟨"java/lang/String", "<init>", "([C)V"⟩ : MethodName) jdk_42_method_3_code 2 none :: wsC) ({ frames := 2, cells := 2, slots := 4, locals := 29 } : Room)) (fun a U => a = #[(.ref a1), (.ref a2)] ∧ Z.Warmed39 U.vm ∧ U.heap = h0 ∧ own_Cold Z U.vm) (fun _ _ _ _ _ => True) (fun _ U o U' => ∃ v L, o = .returned v ∧ Q2c Z a1 a2 ka vs h0 n0 v U'.heap L U'.vm ∧ ReturnedEndW U o U' L ({ frames := 2, cells := 2, slots := 4, locals := 29 } : Room).cells ({ frames := 2, cells := 2, slots := 4, locals := 29 } : Room).slots) := by
  refine MetFree.of_bodySF (plainFor_of_name pn_0) hisR ?_
  intro p e s0 m args below meth c s₁ Bd hml0 hP hK
  obtain ⟨rfl, hZ, hh, IB0⟩ := hP
  have hx := Bd.exec
  have hby := Bd.bytes
  have hml : c.maxLocals = 2 := hml0
  obtain ⟨vmw, hvw⟩ : ∃ z, z = s0.vm := ⟨_, rfl⟩
  obtain ⟨s, hsE⟩ : ∃ z, z = s0.setVm vmw := ⟨_, rfl⟩
  have SI : s0.Since vmw 0 := by rw [hvw]; exact (State.WarmedH.refl s0).since 0
  have W0 : 0 ≤ h0.size := Nat.zero_le _
  have hss : s = s0 := by rw [hsE, hvw]; rfl
  rw [← hss] at hZ
  replace IB0 : own_Cold Z vmw := by rw [hvw]; exact IB0
  have hown : s.vm.findClass "java/lang/String" = some m.cls := by rw [hss]; exact findClass_of_methodNamed Bd.named
  have hnm := (name_of_methodNamed Bd.named Bd.method).1
  have X0 : Stand p l e ({ frames := 2, cells := 2, slots := 4, locals := 29 } : Room) s m #[(.ref a1), (.ref a2)] below meth c s₁ [] 0 0 := by rw [hss]; exact Stand.of_body Bd
  clear hss hvw
  skip
  have e0 : s₁.heap = h0 := by rw [← hh, Bd.state]; rfl
  have NF := Fr.nil n0
  have KP : Keep h0 h0 [a1] := Keep.refl h0 _
  refine WP.go ?_
  refine WP.cast (ef_2c m a1 a2) ?_
  refine WP.name ?_
  intro G hG
  refine WP.st (T' := s₁) (f' := (mkF m 4 #[.val (.ref a1), .val (.ref a2)] [(.ref a2), (.int (0 : Int32)), (.ref a2), (.ref a1)])) (fun t k => ?_) ?_
  · refine XS.aloadN X0.here hx rfl (hb hby d2_0) rfl rfl ?_
    show Steps p.tables e below (s₁.setTop (mkF m 1 #[.val (.ref a1), .val (.ref a2)] [(.ref a1)])) t
    refine XS.aloadN X0.here hx rfl (hb hby d2_1) rfl rfl ?_
    show Steps p.tables e below (s₁.setTop (mkF m 2 #[.val (.ref a1), .val (.ref a2)] [(.ref a2), (.ref a1)])) t
    refine XS.iconst X0.here hx rfl (hb hby d2_2) ?_
    show Steps p.tables e below (s₁.setTop (mkF m 3 #[.val (.ref a1), .val (.ref a2)] [(.int (0 : Int32)), (.ref a2), (.ref a1)])) t
    refine XS.aloadN X0.here hx rfl (hb hby d2_3) rfl rfl ?_
    exact k
  obtain ⟨cl10, Ar10, len10⟩ := V_a2.len
  refine WP.st (T' := s₁) (f' := (mkF m 6 #[.val (.ref a1), .val (.ref a2)] [.null, (.int (0 : Int32)), (.int (0 : Int32)), (.ref a2), (.ref a1)])) (fun t k => ?_) ?_
  · refine X0.arraylength hx (by rw [e0]; exact Ar10.1) (State.isArrayOf_alike hZ.alike Ar10.2.1) (g := (mkF m 4 #[.val (.ref a1), .val (.ref a2)] [(.ref a2), (.int (0 : Int32)), (.ref a2), (.ref a1)])) rfl rfl (hb hby d2_4) _ ?_
    rw [len10]
    show Steps p.tables e below (s₁.setTop (mkF m 5 #[.val (.ref a1), .val (.ref a2)] [(.int (0 : Int32)), (.int (0 : Int32)), (.ref a2), (.ref a1)])) t
    refine XS.aconstNull X0.here hx rfl (hb hby d2_5) ?_
    exact k
  subst hsE
  obtain ⟨_, _, ⟨T11, L11, k11, n11⟩, -, X11, SJ11, gr11, ⟨Lc11, hQ11, l11, y11, z11⟩, st11⟩ := X0.specialBackS hx (y := (⟨"java/lang/String", "<init>", "([CIILjava/lang/Void;)V"⟩ : MethodName)) rfl hown (mvT hZ (w_11 hw)) (mvT hZ (w_12 hw)) (mvT hZ (w_14 hw)) (by decide) (own_backOfJ (J := own_Cold Z) (W := 0) (rm3c l Z a0 hw [] a1 a2 h0 n0 Z0 E_a1 g_a1 F_a1_value F_a1_coder OLD (hCH : Jvm.Lit.constHeld Z "java/lang/String" 7) (hCW : Jvm.Lit.compactW.before a0 Z = true)) hZ (fun _ q => own_coldMv (s := s0.setVm vmw) IB0 q) (w_14 hw) (w_6 hw) (by decide) (by decide)) (g := (mkF m 6 #[.val (.ref a1), .val (.ref a2)] [.null, (.int (0 : Int32)), (.int (0 : Int32)), (.ref a2), (.ref a1)])) rfl (by rw [hml]; rfl) (Steps.refl _) (a := a1) (argsL := [(.ref a2), (.int (0 : Int32)), (.int (0 : Int32)), .null]) (rest := []) (lenOf pd_0 rfl) rfl (by show 2 * 0 + _ ≤ _; exact Nat.le_of_eq rfl) (hb hby d2_6) (fun _ _ => ⟨rfl, e0, (by decide : 0 + 2 ≤ _), (by decide : 0 + 4 ≤ _)⟩)
  dsimp only [Pt.U, Pt.locs, Pt.cells, Pt.slots] at X11 l11 y11 z11 st11 hQ11 SJ11 gr11
  subst l11 y11 z11
  have SI11 := foldS SI (T := s₁) (Nat.le_trans W0 (Nat.le_of_eq (by rw [e0]))) SJ11 gr11
  have hZ11 := State.Warmed39.trans (t := s0.setVm vmw) hZ SJ11.1
  have hown11 : T11.vm.findClass "java/lang/String" = some m.cls := by rw [SJ11.1.alike.findClass]; exact hown
  obtain ⟨la_11, lb_11, lk_11, rfl, Nq11, Kq11, nE11_a1, nF11_a1_coder, nF11_a1_value, nA11_lb_11, nE11_la_11, nF11_la_11_coder, nF11_la_11_value, ne_la_11_a1, LT11⟩ := hQ11
  replace NF := Fr.app NF Nq11
  clear Nq11
  refine WP.tr st11 ?_
  clear st11
  obtain ⟨h11, e11⟩ : ∃ h, T11.heap = h := ⟨_, rfl⟩
  rw [e11] at Kq11 nE11_a1 nF11_a1_coder nF11_a1_value nA11_lb_11 nE11_la_11 nF11_la_11_coder nF11_la_11_value
  have ne_a1_a2 : a1 ≠ a2 := Exa.neArv E_a1 V_a2 (w_5 hw)
  replace E_a1 := E_a1.keep Kq11
  clear F_a1_value
  clear F_a1_coder
  replace V_a2 := V_a2.keep Kq11 (by exact ninS (Ne.symm ne_a1_a2) (nin0))
  replace OLD := OLD.keep Kq11 (allS g_a1 all0)
  replace Z0 := Nat.le_trans Z0 Kq11.1
  replace W0 := Nat.le_trans W0 Kq11.1
  replace KP := KP.trans Kq11 (allS (Or.inl (List.mem_of_getElem? (i := 0) rfl)) all0)
  clear Kq11
  clear E_a1
  have E_a1 := nE11_a1
  clear nE11_a1
  have F_a1_coder := nF11_a1_coder
  clear nF11_a1_coder
  have F_a1_value := nF11_a1_value
  clear nF11_a1_value
  have V_lb_11 := nA11_lb_11
  clear nA11_lb_11
  have E_la_11 := nE11_la_11
  clear nE11_la_11
  have F_la_11_coder := nF11_la_11_coder
  clear nF11_la_11_coder
  have F_la_11_value := nF11_la_11_value
  clear nF11_la_11_value
  clear W0
  have W0 : T11.heap.size ≤ h11.size := Nat.le_of_eq (by rw [e11])
  clear hZ hown SI IB0
  obtain ⟨vmw, hvw⟩ : ∃ z, z = T11.vm := ⟨_, rfl⟩
  replace hZ11 : Z.Warmed39 vmw := by rw [hvw]; exact hZ11
  replace hown11 : vmw.findClass "java/lang/String" = some m.cls := by rw [hvw]; exact hown11
  have SI := SI11
  clear SI11
  rw [← hvw] at SI
  have LT : own_Hot Z la_11 vmw := by rw [hvw]; exact LT11
  clear LT11
  obtain ⟨s, hsE⟩ : ∃ z, z = s0.setVm vmw := ⟨_, rfl⟩
  have hX : ∃ LL, Stand p l e ({ frames := 2, cells := 2, slots := 4, locals := 29 } : Room) s m #[(.ref a1), (.ref a2)] below meth c T11 LL 2 4 ∧ Fr n0 LL := ⟨_, (by rw [hsE, hvw]; exact X11), NF⟩
  clear X11 NF
  obtain ⟨LL11, X11, NF⟩ := hX
  clear hvw
  have hZ : Z.Warmed39 s.vm := by rw [hsE]; exact hZ11
  have hown : s.vm.findClass "java/lang/String" = some m.cls := by rw [hsE]; exact hown11
  clear hZ11 hown11
  have hXN : ∃ LL, Stand p l e ({ frames := 2, cells := 2, slots := 4, locals := 29 } : Room) s m #[(.ref a1), (.ref a2)] below meth c T11 LL 2 4 ∧ Fr n0 LL := ⟨_, X11, NF⟩
  clear X11 NF
  obtain ⟨LL12, X11, NF⟩ := hXN
  show WP p.tables e below _ T11 (mkF m 9 #[.val (.ref a1), .val (.ref a2)] [])
  subst hG
  subst hsE
  obtain ⟨fs, hr, hrun, hended, hEW⟩ := X11.leaveW SI (Nat.le_trans W0 (Nat.le_of_eq (by rw [e11]))) (v := none) (fun _ => rfl)
  refine WP.fin ⟨_, _, ?_, hrun, hended, _, _, rfl, ?_, hEW.1, hEW.2.1, hEW.2.2.1, hEW.2.2.2.mono (by decide) (by decide)⟩
  · exact X11.returnOut hx Bd.returns (hb hby d2_9) hr
  · show Q2c Z a1 a2 ka vs h0 n0 _ T11.heap _ T11.vm
    rw [e11]
    exact ⟨la_11, lb_11, lk_11, rfl, NF, KP, E_a1, F_a1_coder, F_a1_value, V_lb_11, E_la_11, F_la_11_coder, F_la_11_value, ne_la_11_a1, (own_hotMv (s := s0.setVm vmw) LT X11.warmed)⟩
theorem ef_3h (m : MethodId) (z0 : Addr) (z1 : Addr) : entryFrame m #[(.ref z0), (.ref z1), (.int (0 : Int32)), (.int (0 : Int32)), .null] 6 = mkF m 0 #[.val (.ref z0), .val (.ref z1), .val (.int (0 : Int32)), .val (.int (0 : Int32)), .val .null, .unset] [] := by
  all_goals first | (simp [entryFrame, mkF, argsToLocals, Value.category]; done) | rfl
def Q3h (Z : State) (a1 : Addr) (a2 : Addr) (la : Addr) (lb : Addr) (lk : ClassId) (h0 : Heap) (n0 : Nat) (v : Option Value) (h : Heap) (L : List Loc) (ve : Vm) : Prop := v = none ∧ Fr n0 L ∧ Keep h0 h [a1] ∧ Exa Z h a1 "java/lang/String" ∧ Fld Z h a1 "java/lang/String" "coder" "B" (.int (0 : Int32)) ∧ Fld Z h a1 "java/lang/String" "value" "[B" (.ref lb) ∧ own_Hot Z la ve
set_option maxRecDepth 65536 in
set_option maxHeartbeats 40000000 in
theorem rm3h (l : Launch) (Z : State) (a0 : Array Value) (hw : ∀ d ∈ tables_1, d.before a0 Z = true) (wsC : List Jvm.Cond) (a1 : Addr) (a2 : Addr) (la : Addr) (lb : Addr) (lk : ClassId) (h0 : Heap) (n0 : Nat) (Z0 : n0 ≤ h0.size) (E_a1 : Exa Z h0 a1 "java/lang/String") (g_a1 : n0 ≤ a1) (F_a1_value : Fld Z h0 a1 "java/lang/String" "value" "[B" .null) (F_a1_coder : Fld Z h0 a1 "java/lang/String" "coder" "B" (.int (0 : Int32))) (E_la : Exa Z h0 la "java/lang/String") (F_la_coder : Fld Z h0 la "java/lang/String" "coder" "B" (.int (0 : Int32))) (F_la_value : Fld Z h0 la "java/lang/String" "value" "[B" (.ref lb)) (V_lb : Arv Z h0 lb lk .byte (0 : Int32) [] (.int (0 : Int32))) (OLD : Old Z n0 h0) (hCH : Jvm.Lit.constHeld Z "java/lang/String" 7) (hCW : Jvm.Lit.compactW.before a0 Z = true) :
    MetFree l (⟨"java/lang/String", "<init>", "([CIILjava/lang/Void;)V"⟩ : MethodName) (head1 (Jvm.Cond.code (⟨"java/lang/String", "<init>", "([CIILjava/lang/Void;)V"⟩ : MethodName) jdk_42_method_149_code 6 none :: wsC) ({ frames := 1, cells := 0, slots := 0, locals := 12 } : Room)) (fun a U => a = #[(.ref a1), (.ref a2), (.int (0 : Int32)), (.int (0 : Int32)), .null] ∧ Z.Warmed39 U.vm ∧ U.heap = h0 ∧ own_Hot Z la U.vm) (fun _ _ _ _ _ => True) (fun _ U o U' => ∃ v L, o = .returned v ∧ Q3h Z a1 a2 la lb lk h0 n0 v U'.heap L U'.vm ∧ ReturnedEndW U o U' L ({ frames := 1, cells := 0, slots := 0, locals := 12 } : Room).cells ({ frames := 1, cells := 0, slots := 0, locals := 12 } : Room).slots) := by
  refine MetFree.of_bodySF (plainFor_of_name pn_0) hisR ?_
  intro p e s0 m args below meth c s₁ Bd hml0 hP hK
  obtain ⟨rfl, hZ, hh, LT0⟩ := hP
  have hx := Bd.exec
  have hby := Bd.bytes
  have hml : c.maxLocals = 6 := hml0
  obtain ⟨vmw, hvw⟩ : ∃ z, z = s0.vm := ⟨_, rfl⟩
  obtain ⟨s, hsE⟩ : ∃ z, z = s0.setVm vmw := ⟨_, rfl⟩
  have SI : s0.Since vmw 0 := by rw [hvw]; exact (State.WarmedH.refl s0).since 0
  have W0 : 0 ≤ h0.size := Nat.zero_le _
  have hss : s = s0 := by rw [hsE, hvw]; rfl
  rw [← hss] at hZ
  have LT : own_Hot Z la vmw := by rw [hvw]; exact LT0
  clear LT0
  have hown : s.vm.findClass "java/lang/String" = some m.cls := by rw [hss]; exact findClass_of_methodNamed Bd.named
  have hnm := (name_of_methodNamed Bd.named Bd.method).1
  have X0 : Stand p l e ({ frames := 1, cells := 0, slots := 0, locals := 12 } : Room) s m #[(.ref a1), (.ref a2), (.int (0 : Int32)), (.int (0 : Int32)), .null] below meth c s₁ [] 0 0 := by rw [hss]; exact Stand.of_body Bd
  clear hss hvw
  skip
  have e0 : s₁.heap = h0 := by rw [← hh, Bd.state]; rfl
  have NF := Fr.nil n0
  have KP : Keep h0 h0 [a1] := Keep.refl h0 _
  refine WP.go ?_
  refine WP.cast (ef_3h m a1 a2) ?_
  refine WP.name ?_
  intro G hG
  refine WP.st (T' := s₁) (f' := (mkF m 1 #[.val (.ref a1), .val (.ref a2), .val (.int (0 : Int32)), .val (.int (0 : Int32)), .val .null, .unset] [(.ref a1)])) (fun t k => ?_) ?_
  · refine XS.aloadN X0.here hx rfl (hb hby d3_0) rfl rfl ?_
    exact k
  obtain ⟨T13, X13, e13, st13⟩ := initO X0 hx hZ hown (w_15 hw) (w_16 hw) (w_17 hw) e0 (g := (mkF m 1 #[.val (.ref a1), .val (.ref a2), .val (.int (0 : Int32)), .val (.int (0 : Int32)), .val .null, .unset] [(.ref a1)])) rfl (by rw [hml]; rfl) rfl (hb hby d3_1) (by decide) (W := 0) (by show 2 * 0 + _ ≤ _; exact Nat.le_of_eq rfl) (by decide)
  refine WP.st st13 ?_
  clear st13
  show WP p.tables e below _ T13 (mkF m 4 #[.val (.ref a1), .val (.ref a2), .val (.int (0 : Int32)), .val (.int (0 : Int32)), .val .null, .unset] [])
  refine WP.st (T' := T13) (f' := (mkF m 9 #[.val (.ref a1), .val (.ref a2), .val (.int (0 : Int32)), .val (.int (0 : Int32)), .val .null, .unset] [(.ref a1)])) (fun t k => ?_) ?_
  · refine XS.iloadN X13.here hx rfl (hb hby d3_4) rfl ?_
    show Steps p.tables e below (T13.setTop (mkF m 5 #[.val (.ref a1), .val (.ref a2), .val (.int (0 : Int32)), .val (.int (0 : Int32)), .val .null, .unset] [(.int (0 : Int32))])) t
    refine XS.ifNo X13.here hx rfl (hb hby d3_5) rfl ((if0 _ _).trans (teq (by decide : (0 : Int32) = (0 : Int32))).2) ?_
    show Steps p.tables e below (T13.setTop (mkF m 8 #[.val (.ref a1), .val (.ref a2), .val (.int (0 : Int32)), .val (.int (0 : Int32)), .val .null, .unset] [])) t
    refine XS.aloadN X13.here hx rfl (hb hby d3_8) rfl rfl ?_
    exact k
  have st14 := ldcAgain (s := s0) (vm0 := vmw) (a := la) (by have q := X13; rw [hsE] at q; exact q) hx (by have q := hZ; rw [hsE] at q; exact q) (by have q := hown; rw [hsE] at q; exact q) (w_18 hw) (own_hotLit LT) (g := (mkF m 9 #[.val (.ref a1), .val (.ref a2), .val (.int (0 : Int32)), .val (.int (0 : Int32)), .val .null, .unset] [(.ref a1)])) rfl (hb hby d3_9)
  refine WP.st st14 ?_
  clear st14
  show WP p.tables e below _ T13 (mkF m 11 #[.val (.ref a1), .val (.ref a2), .val (.int (0 : Int32)), .val (.int (0 : Int32)), .val .null, .unset] [(.ref la), (.ref a1)])
  obtain ⟨T15, X15, e15, st15⟩ := getF X13 hx hZ hown (host := "") (Or.inl (w_24 hw)) Via.refl e13 F_la_value (g := (mkF m 11 #[.val (.ref a1), .val (.ref a2), .val (.int (0 : Int32)), .val (.int (0 : Int32)), .val .null, .unset] [(.ref la), (.ref a1)])) rfl rfl (hb hby d3_11)
  refine WP.st st15 ?_
  clear st15
  show WP p.tables e below _ T15 (mkF m 14 #[.val (.ref a1), .val (.ref a2), .val (.int (0 : Int32)), .val (.int (0 : Int32)), .val .null, .unset] [(.ref lb), (.ref a1)])
  obtain ⟨T16, h16, X16, e16, W16, st16⟩ := putF X15 hx hZ hown (host := "") (Or.inl (w_24 hw)) Via.refl e15 F_a1_value E_a1 (Or.inr ⟨(w_20 hw), rfl, hnm⟩) (w_5 hw) (ty := (.array .byte)) (by decide) rfl rfl (g := (mkF m 14 #[.val (.ref a1), .val (.ref a2), .val (.int (0 : Int32)), .val (.int (0 : Int32)), .val .null, .unset] [(.ref lb), (.ref a1)])) rfl rfl (hb hby d3_14)
  refine WP.st st16 ?_
  clear st16
  have ne_la_a1 : la ≠ a1 := Fld.ne F_la_value F_a1_value nofun
  have ne_a1_lb : a1 ≠ lb := Exa.neArv E_a1 V_lb (w_5 hw)
  replace E_a1 := E_a1.wr W16
  replace F_a1_value := F_a1_value.same W16
  replace F_a1_coder := F_a1_coder.other W16 (Or.inr (sn_0 hw))
  replace E_la := E_la.wr W16
  replace F_la_coder := F_la_coder.other W16 (Or.inl ne_la_a1)
  replace F_la_value := F_la_value.other W16 (Or.inl ne_la_a1)
  replace V_lb := V_lb.other W16 (Ne.symm ne_a1_lb)
  replace OLD := OLD.wr W16 g_a1
  replace Z0 := Nat.le_trans Z0 (Keep.of_wr W16).1
  replace W0 := Nat.le_trans W0 (Keep.of_wr W16).1
  replace KP := KP.wr W16 (Or.inl (List.mem_of_getElem? (i := 0) rfl))
  replace NF := Fr.snoc X16 NF g_a1
  clear W16
  have hXN : ∃ LL, Stand p l e ({ frames := 1, cells := 0, slots := 0, locals := 12 } : Room) s m #[(.ref a1), (.ref a2), (.int (0 : Int32)), (.int (0 : Int32)), .null] below meth c T16 LL 0 0 ∧ Fr n0 LL := ⟨_, X16, NF⟩
  clear X16 NF
  obtain ⟨LL17, X16, NF⟩ := hXN
  show WP p.tables e below _ T16 (mkF m 17 #[.val (.ref a1), .val (.ref a2), .val (.int (0 : Int32)), .val (.int (0 : Int32)), .val .null, .unset] [])
  refine WP.st (T' := T16) (f' := (mkF m 18 #[.val (.ref a1), .val (.ref a2), .val (.int (0 : Int32)), .val (.int (0 : Int32)), .val .null, .unset] [(.ref a1)])) (fun t k => ?_) ?_
  · refine XS.aloadN X16.here hx rfl (hb hby d3_17) rfl rfl ?_
    exact k
  have st18 := ldcAgain (s := s0) (vm0 := vmw) (a := la) (by have q := X16; rw [hsE] at q; exact q) hx (by have q := hZ; rw [hsE] at q; exact q) (by have q := hown; rw [hsE] at q; exact q) (w_18 hw) (own_hotLit LT) (g := (mkF m 18 #[.val (.ref a1), .val (.ref a2), .val (.int (0 : Int32)), .val (.int (0 : Int32)), .val .null, .unset] [(.ref a1)])) rfl (hb hby d3_18)
  refine WP.st st18 ?_
  clear st18
  show WP p.tables e below _ T16 (mkF m 20 #[.val (.ref a1), .val (.ref a2), .val (.int (0 : Int32)), .val (.int (0 : Int32)), .val .null, .unset] [(.ref la), (.ref a1)])
  obtain ⟨T19, X19, e19, st19⟩ := getF X16 hx hZ hown (host := "") (Or.inl (w_25 hw)) Via.refl e16 F_la_coder (g := (mkF m 20 #[.val (.ref a1), .val (.ref a2), .val (.int (0 : Int32)), .val (.int (0 : Int32)), .val .null, .unset] [(.ref la), (.ref a1)])) rfl rfl (hb hby d3_20)
  refine WP.st st19 ?_
  clear st19
  show WP p.tables e below _ T19 (mkF m 23 #[.val (.ref a1), .val (.ref a2), .val (.int (0 : Int32)), .val (.int (0 : Int32)), .val .null, .unset] [(.int (0 : Int32)), (.ref a1)])
  obtain ⟨T20, h20, X20, e20, W20, st20⟩ := putFN X19 hx hZ hown (w_25 hw) Via.refl e19 F_a1_coder E_a1 (Or.inr ⟨(w_21 hw), rfl, hnm⟩) (w_5 hw) (ty := .byte) (v := (.int (0 : Int32))) (v' := (.int (0 : Int32))) (by decide) rfl (by decide) (g := (mkF m 23 #[.val (.ref a1), .val (.ref a2), .val (.int (0 : Int32)), .val (.int (0 : Int32)), .val .null, .unset] [(.int (0 : Int32)), (.ref a1)])) rfl rfl (hb hby d3_23)
  refine WP.st st20 ?_
  clear st20
  replace E_a1 := E_a1.wr W20
  replace F_a1_value := F_a1_value.other W20 (Or.inr (sn_1 hw))
  replace F_a1_coder := F_a1_coder.same W20
  replace E_la := E_la.wr W20
  replace F_la_coder := F_la_coder.other W20 (Or.inl ne_la_a1)
  replace F_la_value := F_la_value.other W20 (Or.inl ne_la_a1)
  replace V_lb := V_lb.other W20 (Ne.symm ne_a1_lb)
  replace OLD := OLD.wr W20 g_a1
  replace Z0 := Nat.le_trans Z0 (Keep.of_wr W20).1
  replace W0 := Nat.le_trans W0 (Keep.of_wr W20).1
  replace KP := KP.wr W20 (Or.inl (List.mem_of_getElem? (i := 0) rfl))
  replace NF := Fr.snoc X20 NF g_a1
  clear W20
  have hXN : ∃ LL, Stand p l e ({ frames := 1, cells := 0, slots := 0, locals := 12 } : Room) s m #[(.ref a1), (.ref a2), (.int (0 : Int32)), (.int (0 : Int32)), .null] below meth c T20 LL 0 0 ∧ Fr n0 LL := ⟨_, X20, NF⟩
  clear X20 NF
  obtain ⟨LL21, X20, NF⟩ := hXN
  show WP p.tables e below _ T20 (mkF m 26 #[.val (.ref a1), .val (.ref a2), .val (.int (0 : Int32)), .val (.int (0 : Int32)), .val .null, .unset] [])
  subst hG
  subst hsE
  obtain ⟨fs, hr, hrun, hended, hEW⟩ := X20.leaveW SI (Nat.le_trans W0 (Nat.le_of_eq (by rw [e20]))) (v := none) (fun _ => rfl)
  refine WP.fin ⟨_, _, ?_, hrun, hended, _, _, rfl, ?_, hEW.1, hEW.2.1, hEW.2.2.1, hEW.2.2.2.mono (by decide) (by decide)⟩
  · exact X20.returnOut hx Bd.returns (hb hby d3_26) hr
  · show Q3h Z a1 a2 la lb lk h0 n0 _ T20.heap _ T20.vm
    rw [e20]
    exact ⟨rfl, NF, KP, E_a1, F_a1_coder, F_a1_value, (own_hotMv (s := s0.setVm vmw) LT X20.warmed)⟩
theorem ef_2h (m : MethodId) (z0 : Addr) (z1 : Addr) : entryFrame m #[(.ref z0), (.ref z1)] 2 = mkF m 0 #[.val (.ref z0), .val (.ref z1)] [] := by
  all_goals first | (simp [entryFrame, mkF, argsToLocals, Value.category]; done) | rfl
def Q2h (Z : State) (a1 : Addr) (a2 : Addr) (ka : ClassId) (vs : List Value) (la : Addr) (lb : Addr) (lk : ClassId) (h0 : Heap) (n0 : Nat) (v : Option Value) (h : Heap) (L : List Loc) (ve : Vm) : Prop := v = none ∧ Fr n0 L ∧ Keep h0 h [a1] ∧ Exa Z h a1 "java/lang/String" ∧ Fld Z h a1 "java/lang/String" "coder" "B" (.int (0 : Int32)) ∧ Fld Z h a1 "java/lang/String" "value" "[B" (.ref lb) ∧ own_Hot Z la ve
set_option maxRecDepth 65536 in
set_option maxHeartbeats 40000000 in
theorem rm2h (l : Launch) (Z : State) (a0 : Array Value) (hw : ∀ d ∈ tables_1, d.before a0 Z = true) (wsC : List Jvm.Cond) (a1 : Addr) (a2 : Addr) (ka : ClassId) (vs : List Value) (la : Addr) (lb : Addr) (lk : ClassId) (h0 : Heap) (n0 : Nat) (Z0 : n0 ≤ h0.size) (E_a1 : Exa Z h0 a1 "java/lang/String") (g_a1 : n0 ≤ a1) (F_a1_value : Fld Z h0 a1 "java/lang/String" "value" "[B" .null) (F_a1_coder : Fld Z h0 a1 "java/lang/String" "coder" "B" (.int (0 : Int32))) (V_a2 : Arv Z h0 a2 ka .char (0 : Int32) vs (.int (0 : Int32))) (E_la : Exa Z h0 la "java/lang/String") (F_la_coder : Fld Z h0 la "java/lang/String" "coder" "B" (.int (0 : Int32))) (F_la_value : Fld Z h0 la "java/lang/String" "value" "[B" (.ref lb)) (V_lb : Arv Z h0 lb lk .byte (0 : Int32) [] (.int (0 : Int32))) (OLD : Old Z n0 h0) (hCH : Jvm.Lit.constHeld Z "java/lang/String" 7) (hCW : Jvm.Lit.compactW.before a0 Z = true) :
    MetFree l (⟨"java/lang/String", "<init>", "([C)V"⟩ : MethodName) (head1 (Jvm.Cond.code (⟨"java/lang/String", "<init>", "([C)V"⟩ : MethodName) jdk_42_method_3_code 2 none :: wsC) ({ frames := 2, cells := 0, slots := 0, locals := 29 } : Room)) (fun a U => a = #[(.ref a1), (.ref a2)] ∧ Z.Warmed39 U.vm ∧ U.heap = h0 ∧ own_Hot Z la U.vm) (fun _ _ _ _ _ => True) (fun _ U o U' => ∃ v L, o = .returned v ∧ Q2h Z a1 a2 ka vs la lb lk h0 n0 v U'.heap L U'.vm ∧ ReturnedEndW U o U' L ({ frames := 2, cells := 0, slots := 0, locals := 29 } : Room).cells ({ frames := 2, cells := 0, slots := 0, locals := 29 } : Room).slots) := by
  refine MetFree.of_bodySF (plainFor_of_name pn_0) hisR ?_
  intro p e s0 m args below meth c s₁ Bd hml0 hP hK
  obtain ⟨rfl, hZ, hh, LT0⟩ := hP
  have hx := Bd.exec
  have hby := Bd.bytes
  have hml : c.maxLocals = 2 := hml0
  obtain ⟨vmw, hvw⟩ : ∃ z, z = s0.vm := ⟨_, rfl⟩
  obtain ⟨s, hsE⟩ : ∃ z, z = s0.setVm vmw := ⟨_, rfl⟩
  have SI : s0.Since vmw 0 := by rw [hvw]; exact (State.WarmedH.refl s0).since 0
  have W0 : 0 ≤ h0.size := Nat.zero_le _
  have hss : s = s0 := by rw [hsE, hvw]; rfl
  rw [← hss] at hZ
  have LT : own_Hot Z la vmw := by rw [hvw]; exact LT0
  clear LT0
  have hown : s.vm.findClass "java/lang/String" = some m.cls := by rw [hss]; exact findClass_of_methodNamed Bd.named
  have hnm := (name_of_methodNamed Bd.named Bd.method).1
  have X0 : Stand p l e ({ frames := 2, cells := 0, slots := 0, locals := 29 } : Room) s m #[(.ref a1), (.ref a2)] below meth c s₁ [] 0 0 := by rw [hss]; exact Stand.of_body Bd
  clear hss hvw
  skip
  have e0 : s₁.heap = h0 := by rw [← hh, Bd.state]; rfl
  have NF := Fr.nil n0
  have KP : Keep h0 h0 [a1] := Keep.refl h0 _
  refine WP.go ?_
  refine WP.cast (ef_2h m a1 a2) ?_
  refine WP.name ?_
  intro G hG
  refine WP.st (T' := s₁) (f' := (mkF m 4 #[.val (.ref a1), .val (.ref a2)] [(.ref a2), (.int (0 : Int32)), (.ref a2), (.ref a1)])) (fun t k => ?_) ?_
  · refine XS.aloadN X0.here hx rfl (hb hby d2_0) rfl rfl ?_
    show Steps p.tables e below (s₁.setTop (mkF m 1 #[.val (.ref a1), .val (.ref a2)] [(.ref a1)])) t
    refine XS.aloadN X0.here hx rfl (hb hby d2_1) rfl rfl ?_
    show Steps p.tables e below (s₁.setTop (mkF m 2 #[.val (.ref a1), .val (.ref a2)] [(.ref a2), (.ref a1)])) t
    refine XS.iconst X0.here hx rfl (hb hby d2_2) ?_
    show Steps p.tables e below (s₁.setTop (mkF m 3 #[.val (.ref a1), .val (.ref a2)] [(.int (0 : Int32)), (.ref a2), (.ref a1)])) t
    refine XS.aloadN X0.here hx rfl (hb hby d2_3) rfl rfl ?_
    exact k
  obtain ⟨cl22, Ar22, len22⟩ := V_a2.len
  refine WP.st (T' := s₁) (f' := (mkF m 6 #[.val (.ref a1), .val (.ref a2)] [.null, (.int (0 : Int32)), (.int (0 : Int32)), (.ref a2), (.ref a1)])) (fun t k => ?_) ?_
  · refine X0.arraylength hx (by rw [e0]; exact Ar22.1) (State.isArrayOf_alike hZ.alike Ar22.2.1) (g := (mkF m 4 #[.val (.ref a1), .val (.ref a2)] [(.ref a2), (.int (0 : Int32)), (.ref a2), (.ref a1)])) rfl rfl (hb hby d2_4) _ ?_
    rw [len22]
    show Steps p.tables e below (s₁.setTop (mkF m 5 #[.val (.ref a1), .val (.ref a2)] [(.int (0 : Int32)), (.int (0 : Int32)), (.ref a2), (.ref a1)])) t
    refine XS.aconstNull X0.here hx rfl (hb hby d2_5) ?_
    exact k
  subst hsE
  obtain ⟨_, _, ⟨T23, L23, k23, n23⟩, -, X23, SJ23, gr23, ⟨Lc23, hQ23, l23, y23, z23⟩, st23⟩ := X0.specialBackS hx (y := (⟨"java/lang/String", "<init>", "([CIILjava/lang/Void;)V"⟩ : MethodName)) rfl hown (mvT hZ (w_11 hw)) (mvT hZ (w_12 hw)) (mvT hZ (w_14 hw)) (by decide) (own_backOfJ (J := own_Hot Z la) (W := 0) (rm3h l Z a0 hw [] a1 a2 la lb lk h0 n0 Z0 E_a1 g_a1 F_a1_value F_a1_coder E_la F_la_coder F_la_value V_lb OLD (hCH : Jvm.Lit.constHeld Z "java/lang/String" 7) (hCW : Jvm.Lit.compactW.before a0 Z = true)) hZ (fun _ q => own_hotMv (s := s0.setVm vmw) LT q) (w_14 hw) (w_6 hw) (by decide) (by decide)) (g := (mkF m 6 #[.val (.ref a1), .val (.ref a2)] [.null, (.int (0 : Int32)), (.int (0 : Int32)), (.ref a2), (.ref a1)])) rfl (by rw [hml]; rfl) (Steps.refl _) (a := a1) (argsL := [(.ref a2), (.int (0 : Int32)), (.int (0 : Int32)), .null]) (rest := []) (lenOf pd_0 rfl) rfl (by show 2 * 0 + _ ≤ _; exact Nat.le_of_eq rfl) (hb hby d2_6) (fun _ _ => ⟨rfl, e0, (by decide : 0 + 0 ≤ _), (by decide : 0 + 0 ≤ _)⟩)
  dsimp only [Pt.U, Pt.locs, Pt.cells, Pt.slots] at X23 l23 y23 z23 st23 hQ23 SJ23 gr23
  subst l23 y23 z23
  have SI23 := foldS SI (T := s₁) (Nat.le_trans W0 (Nat.le_of_eq (by rw [e0]))) SJ23 gr23
  have hZ23 := State.Warmed39.trans (t := s0.setVm vmw) hZ SJ23.1
  have hown23 : T23.vm.findClass "java/lang/String" = some m.cls := by rw [SJ23.1.alike.findClass]; exact hown
  obtain ⟨rfl, Nq23, Kq23, nE23_a1, nF23_a1_coder, nF23_a1_value, LT23⟩ := hQ23
  replace NF := Fr.app NF Nq23
  clear Nq23
  refine WP.tr st23 ?_
  clear st23
  obtain ⟨h23, e23⟩ : ∃ h, T23.heap = h := ⟨_, rfl⟩
  rw [e23] at Kq23 nE23_a1 nF23_a1_coder nF23_a1_value
  have ne_a1_a2 : a1 ≠ a2 := Exa.neArv E_a1 V_a2 (w_5 hw)
  have ne_la_a1 : la ≠ a1 := Fld.ne F_la_value F_a1_value nofun
  have ne_a1_lb : a1 ≠ lb := Exa.neArv E_a1 V_lb (w_5 hw)
  replace E_a1 := E_a1.keep Kq23
  clear F_a1_value
  clear F_a1_coder
  replace V_a2 := V_a2.keep Kq23 (by exact ninS (Ne.symm ne_a1_a2) (nin0))
  replace E_la := E_la.keep Kq23
  replace F_la_coder := F_la_coder.keep Kq23 (by exact ninS ne_la_a1 (nin0))
  replace F_la_value := F_la_value.keep Kq23 (by exact ninS ne_la_a1 (nin0))
  replace V_lb := V_lb.keep Kq23 (by exact ninS (Ne.symm ne_a1_lb) (nin0))
  replace OLD := OLD.keep Kq23 (allS g_a1 all0)
  replace Z0 := Nat.le_trans Z0 Kq23.1
  replace W0 := Nat.le_trans W0 Kq23.1
  replace KP := KP.trans Kq23 (allS (Or.inl (List.mem_of_getElem? (i := 0) rfl)) all0)
  clear Kq23
  clear E_a1
  have E_a1 := nE23_a1
  clear nE23_a1
  have F_a1_coder := nF23_a1_coder
  clear nF23_a1_coder
  have F_a1_value := nF23_a1_value
  clear nF23_a1_value
  clear W0
  have W0 : T23.heap.size ≤ h23.size := Nat.le_of_eq (by rw [e23])
  clear hZ hown SI
  obtain ⟨vmw, hvw⟩ : ∃ z, z = T23.vm := ⟨_, rfl⟩
  replace hZ23 : Z.Warmed39 vmw := by rw [hvw]; exact hZ23
  replace hown23 : vmw.findClass "java/lang/String" = some m.cls := by rw [hvw]; exact hown23
  have SI := SI23
  clear SI23
  rw [← hvw] at SI
  have LT : own_Hot Z la vmw := by rw [hvw]; exact LT23
  clear LT23
  obtain ⟨s, hsE⟩ : ∃ z, z = s0.setVm vmw := ⟨_, rfl⟩
  have hX : ∃ LL, Stand p l e ({ frames := 2, cells := 0, slots := 0, locals := 29 } : Room) s m #[(.ref a1), (.ref a2)] below meth c T23 LL 0 0 ∧ Fr n0 LL := ⟨_, (by rw [hsE, hvw]; exact X23), NF⟩
  clear X23 NF
  obtain ⟨LL23, X23, NF⟩ := hX
  clear hvw
  have hZ : Z.Warmed39 s.vm := by rw [hsE]; exact hZ23
  have hown : s.vm.findClass "java/lang/String" = some m.cls := by rw [hsE]; exact hown23
  clear hZ23 hown23
  have hXN : ∃ LL, Stand p l e ({ frames := 2, cells := 0, slots := 0, locals := 29 } : Room) s m #[(.ref a1), (.ref a2)] below meth c T23 LL 0 0 ∧ Fr n0 LL := ⟨_, X23, NF⟩
  clear X23 NF
  obtain ⟨LL24, X23, NF⟩ := hXN
  show WP p.tables e below _ T23 (mkF m 9 #[.val (.ref a1), .val (.ref a2)] [])
  subst hG
  subst hsE
  obtain ⟨fs, hr, hrun, hended, hEW⟩ := X23.leaveW SI (Nat.le_trans W0 (Nat.le_of_eq (by rw [e23]))) (v := none) (fun _ => rfl)
  refine WP.fin ⟨_, _, ?_, hrun, hended, _, _, rfl, ?_, hEW.1, hEW.2.1, hEW.2.2.1, hEW.2.2.2.mono (by decide) (by decide)⟩
  · exact X23.returnOut hx Bd.returns (hb hby d2_9) hr
  · show Q2h Z a1 a2 ka vs la lb lk h0 n0 _ T23.heap _ T23.vm
    rw [e23]
    exact ⟨rfl, NF, KP, E_a1, F_a1_coder, F_a1_value, (own_hotMv (s := s0.setVm vmw) LT X23.warmed)⟩
theorem ef_14 (m : MethodId) (z0 : Addr) : entryFrame m #[(.ref z0)] 1 = mkF m 0 #[.val (.ref z0)] [] := by
  all_goals first | (simp [entryFrame, mkF, argsToLocals, Value.category]; done) | rfl
theorem w_26 {a0 : Array Value} {Z : State} (hw : ∀ d ∈ tables_1, d.before a0 Z = true) : (Jvm.Cond.fieldLink "java/lang/String" (38 : Nat) "java/lang/String" "COMPACT_STRINGS" "Z").before a0 Z = true := hw _ (List.mem_of_getElem? (i := 26) rfl)
theorem d14_0 : decode jdk_42_method_152_code 0 = .ok (.getstatic 38, 3) := by decide +kernel
theorem d14_3 : decode jdk_42_method_152_code 3 = .ok (.ifCond .eq 10, 3) := by decide +kernel
theorem d14_6 : decode jdk_42_method_152_code 6 = .ok (.aload_n 0, 1) := by decide +kernel
theorem d14_7 : decode jdk_42_method_152_code 7 = .ok (.getfield 15, 3) := by decide +kernel
theorem d14_10 : decode jdk_42_method_152_code 10 = .ok (.goto 4, 3) := by decide +kernel
theorem d14_14 : decode jdk_42_method_152_code 14 = .ok (.ireturn, 1) := by decide +kernel
def Q14 (Z : State) (a1 : Addr) (gC : Int32) (h0 : Heap) (n0 : Nat) (v : Option Value) (h : Heap) (L : List Loc) : Prop := v = some (.int (0 : Int32)) ∧ Fr n0 L ∧ h = h0
set_option maxRecDepth 65536 in
set_option maxHeartbeats 40000000 in
theorem rm14 (l : Launch) (Z : State) (a0 : Array Value) (hw : ∀ d ∈ tables_1, d.before a0 Z = true) (wsC : List Jvm.Cond) (a1 : Addr) (gC : Int32) (h0 : Heap) (n0 : Nat) (Z0 : n0 ≤ h0.size) (F_a1_coder : Fld Z h0 a1 "java/lang/String" "coder" "B" (.int (0 : Int32))) (OLD : Old Z n0 h0) (O2 : Sta Z Z.heap "java/lang/String" "COMPACT_STRINGS" "Z" (.int gC)) (hz : ¬ gC = (0 : Int32)) :
    MetFree l (⟨"java/lang/String", "coder", "()B"⟩ : MethodName) (head1 (Jvm.Cond.code (⟨"java/lang/String", "coder", "()B"⟩ : MethodName) jdk_42_method_152_code 1 (some .byte) :: wsC) ({ frames := 0, cells := 0, slots := 0, locals := 0 } : Room)) (fun a U => a = #[(.ref a1)] ∧ Z.Warmed39 U.vm ∧ U.heap = h0) (fun _ _ _ _ _ => True) (fun _ U o U' => ∃ v L, o = .returned v ∧ Q14 Z a1 gC h0 n0 v U'.heap L ∧ FrameEnd U o U' L ({ frames := 0, cells := 0, slots := 0, locals := 0 } : Room).cells ({ frames := 0, cells := 0, slots := 0, locals := 0 } : Room).slots) := by
  refine MetFree.of_bodySF (plainFor_of_name pn_0) hisR ?_
  intro p e s m args below meth c s₁ Bd hml0 hP hK
  obtain ⟨rfl, hZ, hh⟩ := hP
  have hx := Bd.exec
  have hby := Bd.bytes
  have hml : c.maxLocals = 1 := hml0
  have hown : s.vm.findClass "java/lang/String" = some m.cls := findClass_of_methodNamed Bd.named
  have hnm := (name_of_methodNamed Bd.named Bd.method).1
  have X0 : Stand p l e ({ frames := 0, cells := 0, slots := 0, locals := 0 } : Room) s m #[(.ref a1)] below meth c s₁ [] 0 0 := Stand.of_body Bd
  skip
  have e0 : s₁.heap = h0 := by rw [← hh, Bd.state]; rfl
  have NF := Fr.nil n0
  refine WP.go ?_
  refine WP.cast (ef_14 m a1) ?_
  refine WP.name ?_
  intro G hG
  have U_java_lang_String_COMPACT_STRINGS := O2.ext OLD.2
  obtain ⟨T25, X25, e25, st25⟩ := getS2 X0 hx hZ hown (host := "") (Or.inl (w_26 hw)) Via.refl e0 U_java_lang_String_COMPACT_STRINGS (g := (mkF m 0 #[.val (.ref a1)] [])) rfl (hb hby d14_0)
  refine WP.st st25 ?_
  clear st25
  show WP p.tables e below _ T25 (mkF m 3 #[.val (.ref a1)] [(.int gC)])
  refine WP.st (T' := T25) (f' := (mkF m 7 #[.val (.ref a1)] [(.ref a1)])) (fun t k => ?_) ?_
  · refine XS.ifNo X25.here hx rfl (hb hby d14_3) rfl ((if0 _ _).trans (feq hz).1) ?_
    show Steps p.tables e below (T25.setTop (mkF m 6 #[.val (.ref a1)] [])) t
    refine XS.aloadN X25.here hx rfl (hb hby d14_6) rfl rfl ?_
    exact k
  obtain ⟨T26, X26, e26, st26⟩ := getF X25 hx hZ hown (host := "") (Or.inl (w_25 hw)) Via.refl e25 F_a1_coder (g := (mkF m 7 #[.val (.ref a1)] [(.ref a1)])) rfl rfl (hb hby d14_7)
  refine WP.st st26 ?_
  clear st26
  show WP p.tables e below _ T26 (mkF m 10 #[.val (.ref a1)] [(.int (0 : Int32))])
  refine WP.st (T' := T26) (f' := (mkF m 14 #[.val (.ref a1)] [(.int (0 : Int32))])) (fun t k => ?_) ?_
  · refine XS.goto X26.here hx rfl (pc0 := 10) (pc' := 14) rfl (hb hby d14_10) (by decide) (by decide) ?_
    exact k
  subst hG
  obtain ⟨fs, hr, hrun, hended, hW, hsame⟩ := X26.leave (v := some (.int (0 : Int32))) (fun h => by rw [Bd.returns] at h; cases h)
  refine WP.fin ⟨_, _, ?_, hrun, hended, _, _, rfl, ?_, ⟨_, rfl⟩, hW, hsame.mono (by decide) (by decide)⟩
  · exact retN X26 hx (t := .byte) Bd.returns (by simp) (hb hby d14_14) hr
  · show Q14 Z a1 gC h0 n0 _ T26.heap _
    rw [e26]
    exact ⟨rfl, NF, rfl⟩
theorem ef_13 (m : MethodId) (z0 : Addr) : entryFrame m #[(.ref z0)] 1 = mkF m 0 #[.val (.ref z0)] [] := by
  all_goals first | (simp [entryFrame, mkF, argsToLocals, Value.category]; done) | rfl
theorem d13_0 : decode jdk_42_method_54_code 0 = .ok (.aload_n 0, 1) := by decide +kernel
theorem d13_1 : decode jdk_42_method_54_code 1 = .ok (.getfield 9, 3) := by decide +kernel
theorem d13_4 : decode jdk_42_method_54_code 4 = .ok (.arraylength, 1) := by decide +kernel
theorem d13_5 : decode jdk_42_method_54_code 5 = .ok (.aload_n 0, 1) := by decide +kernel
theorem w_79 {a0 : Array Value} {Z : State} (hw : ∀ d ∈ tables_1, d.before a0 Z = true) : (Jvm.Cond.methodLink "java/lang/String" (335 : Nat) ({ cls := "java/lang/String", name := "coder", desc := "()B" } : Jvm.MethodName)).before a0 Z = true := hw _ (List.mem_of_getElem? (i := 79) rfl)
theorem d13_6 : decode jdk_42_method_54_code 6 = .ok (.invokevirtual 335, 3) := by decide +kernel
theorem w_83 {a0 : Array Value} {Z : State} (hw : ∀ d ∈ tables_1, d.before a0 Z = true) : (Jvm.Cond.code ({ cls := "java/lang/String", name := "coder", desc := "()B" } : Jvm.MethodName) jdk_42_method_152_code (1 : Nat) (Option.some Jvm.ClassFile.FieldType.byte)).before a0 Z = true := hw _ (List.mem_of_getElem? (i := 83) rfl)
theorem pd_1 : parseMethodDescriptor "()B" = some ⟨[], some .byte⟩ := by decide +kernel
theorem w_82 {a0 : Array Value} {Z : State} (hw : ∀ d ∈ tables_1, d.before a0 Z = true) : (Jvm.Cond.selects "java/lang/String" ({ cls := "java/lang/String", name := "coder", desc := "()B" } : Jvm.MethodName) ({ cls := "java/lang/String", name := "coder", desc := "()B" } : Jvm.MethodName)).before a0 Z = true := hw _ (List.mem_of_getElem? (i := 82) rfl)
theorem w_80 {a0 : Array Value} {Z : State} (hw : ∀ d ∈ tables_1, d.before a0 Z = true) : (Jvm.Cond.declares ({ cls := "java/lang/String", name := "coder", desc := "()B" } : Jvm.MethodName)).before a0 Z = true := hw _ (List.mem_of_getElem? (i := 80) rfl)
theorem w_81 {a0 : Array Value} {Z : State} (hw : ∀ d ∈ tables_1, d.before a0 Z = true) : (Jvm.Cond.instanceMethod ({ cls := "java/lang/String", name := "coder", desc := "()B" } : Jvm.MethodName)).before a0 Z = true := hw _ (List.mem_of_getElem? (i := 81) rfl)
theorem d13_9 : decode jdk_42_method_54_code 9 = .ok (.ishr, 1) := by decide +kernel
theorem d13_10 : decode jdk_42_method_54_code 10 = .ok (.ireturn, 1) := by decide +kernel
def Q13 (Z : State) (a1 : Addr) (ta : Addr) (kb : ClassId) (N2 : Int32) (vs : List Value) (dv : Value) (gC : Int32) (h0 : Heap) (n0 : Nat) (v : Option Value) (h : Heap) (L : List Loc) : Prop := v = some (.int N2) ∧ Fr n0 L ∧ h = h0
set_option maxRecDepth 65536 in
set_option maxHeartbeats 40000000 in
theorem rm13 (l : Launch) (Z : State) (a0 : Array Value) (hw : ∀ d ∈ tables_1, d.before a0 Z = true) (wsC : List Jvm.Cond) (a1 : Addr) (ta : Addr) (kb : ClassId) (N2 : Int32) (vs : List Value) (dv : Value) (gC : Int32) (h0 : Heap) (n0 : Nat) (Z0 : n0 ≤ h0.size) (E_a1 : Exa Z h0 a1 "java/lang/String") (F_a1_value : Fld Z h0 a1 "java/lang/String" "value" "[B" (.ref ta)) (F_a1_coder : Fld Z h0 a1 "java/lang/String" "coder" "B" (.int (0 : Int32))) (V_ta : Arv Z h0 ta kb .byte N2 vs dv) (OLD : Old Z n0 h0) (O2 : Sta Z Z.heap "java/lang/String" "COMPACT_STRINGS" "Z" (.int gC)) (hz : ¬ gC = (0 : Int32)) :
    MetFree l (⟨"java/lang/String", "length", "()I"⟩ : MethodName) (head1 (Jvm.Cond.code (⟨"java/lang/String", "length", "()I"⟩ : MethodName) jdk_42_method_54_code 1 (some .int) :: wsC) ({ frames := 1, cells := 0, slots := 0, locals := 13 } : Room)) (fun a U => a = #[(.ref a1)] ∧ Z.Warmed39 U.vm ∧ U.heap = h0) (fun _ _ _ _ _ => True) (fun _ U o U' => ∃ v L, o = .returned v ∧ Q13 Z a1 ta kb N2 vs dv gC h0 n0 v U'.heap L ∧ FrameEnd U o U' L ({ frames := 1, cells := 0, slots := 0, locals := 13 } : Room).cells ({ frames := 1, cells := 0, slots := 0, locals := 13 } : Room).slots) := by
  refine MetFree.of_bodySF (plainFor_of_name pn_0) hisR ?_
  intro p e s m args below meth c s₁ Bd hml0 hP hK
  obtain ⟨rfl, hZ, hh⟩ := hP
  have hx := Bd.exec
  have hby := Bd.bytes
  have hml : c.maxLocals = 1 := hml0
  have hown : s.vm.findClass "java/lang/String" = some m.cls := findClass_of_methodNamed Bd.named
  have hnm := (name_of_methodNamed Bd.named Bd.method).1
  have X0 : Stand p l e ({ frames := 1, cells := 0, slots := 0, locals := 13 } : Room) s m #[(.ref a1)] below meth c s₁ [] 0 0 := Stand.of_body Bd
  skip
  have e0 : s₁.heap = h0 := by rw [← hh, Bd.state]; rfl
  have NF := Fr.nil n0
  refine WP.go ?_
  refine WP.cast (ef_13 m a1) ?_
  refine WP.name ?_
  intro G hG
  refine WP.st (T' := s₁) (f' := (mkF m 1 #[.val (.ref a1)] [(.ref a1)])) (fun t k => ?_) ?_
  · refine XS.aloadN X0.here hx rfl (hb hby d13_0) rfl rfl ?_
    exact k
  obtain ⟨T27, X27, e27, st27⟩ := getF X0 hx hZ hown (host := "") (Or.inl (w_24 hw)) Via.refl e0 F_a1_value (g := (mkF m 1 #[.val (.ref a1)] [(.ref a1)])) rfl rfl (hb hby d13_1)
  refine WP.st st27 ?_
  clear st27
  show WP p.tables e below _ T27 (mkF m 4 #[.val (.ref a1)] [(.ref ta)])
  obtain ⟨cl28, Ar28, len28⟩ := V_ta.len
  refine WP.st (T' := T27) (f' := (mkF m 6 #[.val (.ref a1)] [(.ref a1), (.int N2)])) (fun t k => ?_) ?_
  · refine X27.arraylength hx (by rw [e27]; exact Ar28.1) (State.isArrayOf_alike hZ.alike Ar28.2.1) (g := (mkF m 4 #[.val (.ref a1)] [(.ref ta)])) rfl rfl (hb hby d13_4) _ ?_
    rw [len28]
    show Steps p.tables e below (T27.setTop (mkF m 5 #[.val (.ref a1)] [(.int N2)])) t
    refine XS.aloadN X27.here hx rfl (hb hby d13_5) rfl rfl ?_
    exact k
  obtain ⟨cq29, kq29, q29a, q29b, q29c⟩ := isOf hZ e27 E_a1
  obtain ⟨_, _, ⟨T29, L29, k29, n29⟩, -, X29, ⟨Lc29, hQ29, l29, y29, z29⟩, st29⟩ := X27.virtualBack hx (y := (⟨"java/lang/String", "coder", "()B"⟩ : MethodName)) (z := (⟨"java/lang/String", "coder", "()B"⟩ : MethodName)) hown (mvT hZ (w_79 hw)) (mvT hZ (w_80 hw)) (notFace_of_selects (args := #[]) (mvT hZ (w_82 hw))) (mvT hZ (w_82 hw)) (mvT hZ (w_81 hw)) (by decide) (backOf (W := 1) (rm14 l Z a0 hw [] a1 gC h0 n0 Z0 F_a1_coder OLD (O2 : Sta Z Z.heap "java/lang/String" "COMPACT_STRINGS" "Z" (.int gC)) (hz : ¬ gC = (0 : Int32))) hZ (w_83 hw) (w_6 hw) (by decide) (by decide)) q29a q29c (g := (mkF m 6 #[.val (.ref a1)] [(.ref a1), (.int N2)])) rfl (by rw [hml]; rfl) (Steps.refl _) (argsL := []) (rest := [(.int N2)]) (lenOf pd_1 rfl) rfl (by show 2 * 0 + _ ≤ _; exact Nat.le_of_eq rfl) (hb hby d13_6) (fun _ _ => ⟨rfl, e27, (by decide : 0 + 0 ≤ _), (by decide : 0 + 0 ≤ _)⟩)
  dsimp only [Pt.U, Pt.locs, Pt.cells, Pt.slots] at X29 l29 y29 z29 st29 hQ29
  subst l29 y29 z29
  obtain ⟨rfl, Nq29, Kq29⟩ := hQ29
  replace NF := Fr.app NF Nq29
  clear Nq29
  refine WP.tr st29 ?_
  clear st29
  replace Kq29 := Kq29.trans (rfl : h0 = h0)
  have hXN : ∃ LL, Stand p l e ({ frames := 1, cells := 0, slots := 0, locals := 13 } : Room) s m #[(.ref a1)] below meth c T29 LL 0 0 ∧ Fr n0 LL := ⟨_, X29, NF⟩
  clear X29 NF
  obtain ⟨LL30, X29, NF⟩ := hXN
  show WP p.tables e below _ T29 (mkF m 9 #[.val (.ref a1)] [(.int (0 : Int32)), (.int N2)])
  refine WP.st (T' := T29) (f' := (mkF m 10 #[.val (.ref a1)] [(.int (N2 >>> ((0 : Int32) &&& 31)))])) (fun t k => ?_) ?_
  · refine XS.ishr X29.here hx rfl (hb hby d13_9) rfl ?_
    exact k
  subst hG
  obtain ⟨fs, hr, hrun, hended, hW, hsame⟩ := X29.leave (v := some (.int (N2 >>> ((0 : Int32) &&& 31)))) (fun h => by rw [Bd.returns] at h; cases h)
  refine WP.fin ⟨_, _, ?_, hrun, hended, _, _, rfl, ?_, ⟨_, rfl⟩, hW, hsame.mono (by decide) (by decide)⟩
  · exact retI X29 hx Bd.returns (hb hby d13_10) hr
  · show Q13 Z a1 ta kb N2 vs dv gC h0 n0 _ T29.heap _
    rw [Kq29]
    exact ⟨(by rw [own_shr0]), NF, rfl⟩
theorem ef_23 (m : MethodId) (z0 : Addr) (z2 : Addr) : entryFrame m #[(.ref z0), (.int (0 : Int32)), (.ref z2), (.int (0 : Int32)), (.int (1 : Int32))] 8 = mkF m 0 #[.val (.ref z0), .val (.int (0 : Int32)), .val (.ref z2), .val (.int (0 : Int32)), .val (.int (1 : Int32)), .unset, .unset, .unset] [] := by
  all_goals first | (simp [entryFrame, mkF, argsToLocals, Value.category]; done) | rfl
theorem pn_1 : plainName "jdk/internal/util/ArraysSupport" = true := by first | (simp [plainName, overriddenIn]; done) | decide +kernel
theorem d23_0 : decode jdk_48_method_14_code 0 = .ok (.iconst 0, 1) := by decide +kernel
theorem d23_1 : decode jdk_48_method_14_code 1 = .ok (.istore 5, 2) := by decide +kernel
theorem d23_3 : decode jdk_48_method_14_code 3 = .ok (.iload 4, 2) := by decide +kernel
theorem d23_5 : decode jdk_48_method_14_code 5 = .ok (.bipush 7, 2) := by decide +kernel
theorem d23_7 : decode jdk_48_method_14_code 7 = .ok (.if_icmp .le 63, 3) := by decide +kernel
theorem d23_70 : decode jdk_48_method_14_code 70 = .ok (.iload 5, 2) := by decide +kernel
theorem d23_72 : decode jdk_48_method_14_code 72 = .ok (.iload 4, 2) := by decide +kernel
theorem d23_74 : decode jdk_48_method_14_code 74 = .ok (.if_icmp .ge 27, 3) := by decide +kernel
theorem d23_77 : decode jdk_48_method_14_code 77 = .ok (.aload_n 0, 1) := by decide +kernel
theorem d23_78 : decode jdk_48_method_14_code 78 = .ok (.iload_n 1, 1) := by decide +kernel
theorem d23_79 : decode jdk_48_method_14_code 79 = .ok (.iload 5, 2) := by decide +kernel
theorem d23_81 : decode jdk_48_method_14_code 81 = .ok (.iadd, 1) := by decide +kernel
theorem d23_82 : decode jdk_48_method_14_code 82 = .ok (.baload, 1) := by decide +kernel
theorem d23_83 : decode jdk_48_method_14_code 83 = .ok (.aload_n 2, 1) := by decide +kernel
theorem d23_84 : decode jdk_48_method_14_code 84 = .ok (.iload_n 3, 1) := by decide +kernel
theorem d23_85 : decode jdk_48_method_14_code 85 = .ok (.iload 5, 2) := by decide +kernel
theorem d23_87 : decode jdk_48_method_14_code 87 = .ok (.iadd, 1) := by decide +kernel
theorem d23_88 : decode jdk_48_method_14_code 88 = .ok (.baload, 1) := by decide +kernel
theorem d23_89 : decode jdk_48_method_14_code 89 = .ok (.if_icmp .eq 6, 3) := by decide +kernel
theorem d23_95 : decode jdk_48_method_14_code 95 = .ok (.iinc 5 1, 3) := by decide +kernel
theorem d23_98 : decode jdk_48_method_14_code 98 = .ok (.goto (-28), 3) := by decide +kernel
theorem d23_101 : decode jdk_48_method_14_code 101 = .ok (.iconst (-1), 1) := by decide +kernel
theorem d23_102 : decode jdk_48_method_14_code 102 = .ok (.ireturn, 1) := by decide +kernel
theorem d23_92 : decode jdk_48_method_14_code 92 = .ok (.iload 5, 2) := by decide +kernel
theorem d23_94 : decode jdk_48_method_14_code 94 = .ok (.ireturn, 1) := by decide +kernel
def Q23 (Z : State) (ta : Addr) (t2 : Addr) (kb : ClassId) (N2 : Int32) (vs : List Value) (kb2 : ClassId) (b0 : Int32) (h0 : Heap) (n0 : Nat) (v : Option Value) (h : Heap) (L : List Loc) : Prop := v = some (.int (own_mm b0)) ∧ Fr n0 L ∧ h = h0
set_option maxRecDepth 65536 in
set_option maxHeartbeats 40000000 in
theorem rm23 (l : Launch) (Z : State) (a0 : Array Value) (hw : ∀ d ∈ tables_1, d.before a0 Z = true) (wsC : List Jvm.Cond) (ta : Addr) (t2 : Addr) (kb : ClassId) (N2 : Int32) (vs : List Value) (kb2 : ClassId) (b0 : Int32) (h0 : Heap) (n0 : Nat) (Z0 : n0 ≤ h0.size) (V_ta : Arv Z h0 ta kb .byte N2 vs (.int (0 : Int32))) (V_t2 : Arv Z h0 t2 kb2 .byte (1 : Int32) [(.int (37 : Int32))] (.int (0 : Int32))) (hpos : (0 : Int32) < N2) (hv0 : vs.getD ((0 : Int32)).toNatClampNeg (.int (0 : Int32)) = .int b0) :
    MetFree l (⟨"jdk/internal/util/ArraysSupport", "mismatch", "([BI[BII)I"⟩ : MethodName) (head1 (Jvm.Cond.code (⟨"jdk/internal/util/ArraysSupport", "mismatch", "([BI[BII)I"⟩ : MethodName) jdk_48_method_14_code 8 (some .int) :: wsC) ({ frames := 0, cells := 0, slots := 0, locals := 0 } : Room)) (fun a U => a = #[(.ref ta), (.int (0 : Int32)), (.ref t2), (.int (0 : Int32)), (.int (1 : Int32))] ∧ Z.Warmed39 U.vm ∧ U.heap = h0) (fun _ _ _ _ _ => True) (fun _ U o U' => ∃ v L, o = .returned v ∧ Q23 Z ta t2 kb N2 vs kb2 b0 h0 n0 v U'.heap L ∧ FrameEnd U o U' L ({ frames := 0, cells := 0, slots := 0, locals := 0 } : Room).cells ({ frames := 0, cells := 0, slots := 0, locals := 0 } : Room).slots) := by
  refine MetFree.of_bodySF (plainFor_of_name pn_1) hisR ?_
  intro p e s m args below meth c s₁ Bd hml0 hP hK
  obtain ⟨rfl, hZ, hh⟩ := hP
  have hx := Bd.exec
  have hby := Bd.bytes
  have hml : c.maxLocals = 8 := hml0
  have hown : s.vm.findClass "jdk/internal/util/ArraysSupport" = some m.cls := findClass_of_methodNamed Bd.named
  have hnm := (name_of_methodNamed Bd.named Bd.method).1
  have X0 : Stand p l e ({ frames := 0, cells := 0, slots := 0, locals := 0 } : Room) s m #[(.ref ta), (.int (0 : Int32)), (.ref t2), (.int (0 : Int32)), (.int (1 : Int32))] below meth c s₁ [] 0 0 := Stand.of_body Bd
  skip
  have e0 : s₁.heap = h0 := by rw [← hh, Bd.state]; rfl
  have NF := Fr.nil n0
  refine WP.go ?_
  refine WP.cast (ef_23 m ta t2) ?_
  refine WP.name ?_
  intro G hG
  refine WP.st (T' := s₁) (f' := (mkF m 82 #[.val (.ref ta), .val (.int (0 : Int32)), .val (.ref t2), .val (.int (0 : Int32)), .val (.int (1 : Int32)), .val (.int (0 : Int32)), .unset, .unset] [(.int ((0 : Int32) + (0 : Int32))), (.ref ta)])) (fun t k => ?_) ?_
  · refine XS.iconst X0.here hx rfl (hb hby d23_0) ?_
    show Steps p.tables e below (s₁.setTop (mkF m 1 #[.val (.ref ta), .val (.int (0 : Int32)), .val (.ref t2), .val (.int (0 : Int32)), .val (.int (1 : Int32)), .unset, .unset, .unset] [(.int (0 : Int32))])) t
    refine XS.istore X0.here hx rfl (hb hby d23_1) rfl (l' := #[.val (.ref ta), .val (.int (0 : Int32)), .val (.ref t2), .val (.int (0 : Int32)), .val (.int (1 : Int32)), .val (.int (0 : Int32)), .unset, .unset]) rfl ?_
    show Steps p.tables e below (s₁.setTop (mkF m 3 #[.val (.ref ta), .val (.int (0 : Int32)), .val (.ref t2), .val (.int (0 : Int32)), .val (.int (1 : Int32)), .val (.int (0 : Int32)), .unset, .unset] [])) t
    refine XS.iload X0.here hx rfl (hb hby d23_3) rfl ?_
    show Steps p.tables e below (s₁.setTop (mkF m 5 #[.val (.ref ta), .val (.int (0 : Int32)), .val (.ref t2), .val (.int (0 : Int32)), .val (.int (1 : Int32)), .val (.int (0 : Int32)), .unset, .unset] [(.int (1 : Int32))])) t
    refine XS.bipush X0.here hx rfl (hb hby d23_5) ?_
    show Steps p.tables e below (s₁.setTop (mkF m 7 #[.val (.ref ta), .val (.int (0 : Int32)), .val (.ref t2), .val (.int (0 : Int32)), .val (.int (1 : Int32)), .val (.int (0 : Int32)), .unset, .unset] [(.int (7 : Int32)), (.int (1 : Int32))])) t
    refine XS.icmpYes X0.here hx rfl (pc0 := 7) (pc' := 70) rfl (hb hby d23_7) rfl (flt (by decide : ¬ ((7 : Int32) < (1 : Int32)))).2.2.2 (by decide) (by decide) ?_
    show Steps p.tables e below (s₁.setTop (mkF m 70 #[.val (.ref ta), .val (.int (0 : Int32)), .val (.ref t2), .val (.int (0 : Int32)), .val (.int (1 : Int32)), .val (.int (0 : Int32)), .unset, .unset] [])) t
    refine XS.iload X0.here hx rfl (hb hby d23_70) rfl ?_
    show Steps p.tables e below (s₁.setTop (mkF m 72 #[.val (.ref ta), .val (.int (0 : Int32)), .val (.ref t2), .val (.int (0 : Int32)), .val (.int (1 : Int32)), .val (.int (0 : Int32)), .unset, .unset] [(.int (0 : Int32))])) t
    refine XS.iload X0.here hx rfl (hb hby d23_72) rfl ?_
    show Steps p.tables e below (s₁.setTop (mkF m 74 #[.val (.ref ta), .val (.int (0 : Int32)), .val (.ref t2), .val (.int (0 : Int32)), .val (.int (1 : Int32)), .val (.int (0 : Int32)), .unset, .unset] [(.int (1 : Int32)), (.int (0 : Int32))])) t
    refine XS.icmpNo X0.here hx rfl (hb hby d23_74) rfl (tlt (by decide : (0 : Int32) < (1 : Int32))).2.1 ?_
    show Steps p.tables e below (s₁.setTop (mkF m 77 #[.val (.ref ta), .val (.int (0 : Int32)), .val (.ref t2), .val (.int (0 : Int32)), .val (.int (1 : Int32)), .val (.int (0 : Int32)), .unset, .unset] [])) t
    refine XS.aloadN X0.here hx rfl (hb hby d23_77) rfl rfl ?_
    show Steps p.tables e below (s₁.setTop (mkF m 78 #[.val (.ref ta), .val (.int (0 : Int32)), .val (.ref t2), .val (.int (0 : Int32)), .val (.int (1 : Int32)), .val (.int (0 : Int32)), .unset, .unset] [(.ref ta)])) t
    refine XS.iloadN X0.here hx rfl (hb hby d23_78) rfl ?_
    show Steps p.tables e below (s₁.setTop (mkF m 79 #[.val (.ref ta), .val (.int (0 : Int32)), .val (.ref t2), .val (.int (0 : Int32)), .val (.int (1 : Int32)), .val (.int (0 : Int32)), .unset, .unset] [(.int (0 : Int32)), (.ref ta)])) t
    refine XS.iload X0.here hx rfl (hb hby d23_79) rfl ?_
    show Steps p.tables e below (s₁.setTop (mkF m 81 #[.val (.ref ta), .val (.int (0 : Int32)), .val (.ref t2), .val (.int (0 : Int32)), .val (.int (1 : Int32)), .val (.int (0 : Int32)), .unset, .unset] [(.int (0 : Int32)), (.int (0 : Int32)), (.ref ta)])) t
    refine XS.iadd X0.here hx rfl (hb hby d23_81) rfl ?_
    exact k
  rw [show ((0 : Int32) + (0 : Int32)) = (0 : Int32) from by decide]
  show WP p.tables e below _ s₁ (mkF m 82 #[.val (.ref ta), .val (.int (0 : Int32)), .val (.ref t2), .val (.int (0 : Int32)), .val (.int (1 : Int32)), .val (.int (0 : Int32)), .unset, .unset] [(.int (0 : Int32)), (.ref ta)])
  obtain ⟨cl31, Ar31, hin31, hat31, -⟩ := V_ta.rd (j := (0 : Int32)) ⟨by decide, hpos⟩
  rw [show (vs : List Value).getD ((0 : Int32)).toNatClampNeg (.int (0 : Int32)) = (.int b0) from hv0] at hat31
  refine WP.st (T' := s₁) (f' := (mkF m 88 #[.val (.ref ta), .val (.int (0 : Int32)), .val (.ref t2), .val (.int (0 : Int32)), .val (.int (1 : Int32)), .val (.int (0 : Int32)), .unset, .unset] [(.int ((0 : Int32) + (0 : Int32))), (.ref t2), (.int b0)])) (fun t k => ?_) ?_
  · refine X0.baloadBytes hx (j := (0 : Int32)) (v := (.int b0)) (by rw [e0]; exact Ar31.1) (State.isArrayOf_alike hZ.alike Ar31.2.1) Ar31.2.2 hin31 hat31 (g := (mkF m 82 #[.val (.ref ta), .val (.int (0 : Int32)), .val (.ref t2), .val (.int (0 : Int32)), .val (.int (1 : Int32)), .val (.int (0 : Int32)), .unset, .unset] [(.int (0 : Int32)), (.ref ta)])) rfl rfl (hb hby d23_82) _ ?_
    show Steps p.tables e below (s₁.setTop (mkF m 83 #[.val (.ref ta), .val (.int (0 : Int32)), .val (.ref t2), .val (.int (0 : Int32)), .val (.int (1 : Int32)), .val (.int (0 : Int32)), .unset, .unset] [(.int b0)])) t
    refine XS.aloadN X0.here hx rfl (hb hby d23_83) rfl rfl ?_
    show Steps p.tables e below (s₁.setTop (mkF m 84 #[.val (.ref ta), .val (.int (0 : Int32)), .val (.ref t2), .val (.int (0 : Int32)), .val (.int (1 : Int32)), .val (.int (0 : Int32)), .unset, .unset] [(.ref t2), (.int b0)])) t
    refine XS.iloadN X0.here hx rfl (hb hby d23_84) rfl ?_
    show Steps p.tables e below (s₁.setTop (mkF m 85 #[.val (.ref ta), .val (.int (0 : Int32)), .val (.ref t2), .val (.int (0 : Int32)), .val (.int (1 : Int32)), .val (.int (0 : Int32)), .unset, .unset] [(.int (0 : Int32)), (.ref t2), (.int b0)])) t
    refine XS.iload X0.here hx rfl (hb hby d23_85) rfl ?_
    show Steps p.tables e below (s₁.setTop (mkF m 87 #[.val (.ref ta), .val (.int (0 : Int32)), .val (.ref t2), .val (.int (0 : Int32)), .val (.int (1 : Int32)), .val (.int (0 : Int32)), .unset, .unset] [(.int (0 : Int32)), (.int (0 : Int32)), (.ref t2), (.int b0)])) t
    refine XS.iadd X0.here hx rfl (hb hby d23_87) rfl ?_
    exact k
  rw [show ((0 : Int32) + (0 : Int32)) = (0 : Int32) from by decide]
  show WP p.tables e below _ s₁ (mkF m 88 #[.val (.ref ta), .val (.int (0 : Int32)), .val (.ref t2), .val (.int (0 : Int32)), .val (.int (1 : Int32)), .val (.int (0 : Int32)), .unset, .unset] [(.int (0 : Int32)), (.ref t2), (.int b0)])
  obtain ⟨cl32, Ar32, hin32, hat32, -⟩ := V_t2.rd (j := (0 : Int32)) ⟨by decide, by decide⟩
  replace hat32 : cl32.slots[((0 : Int32)).toNatClampNeg]? = some (.int (37 : Int32)) := hat32
  refine WP.st (T' := s₁) (f' := (mkF m 89 #[.val (.ref ta), .val (.int (0 : Int32)), .val (.ref t2), .val (.int (0 : Int32)), .val (.int (1 : Int32)), .val (.int (0 : Int32)), .unset, .unset] [(.int (37 : Int32)), (.int b0)])) (fun t k => ?_) ?_
  · refine X0.baloadBytes hx (j := (0 : Int32)) (v := (.int (37 : Int32))) (by rw [e0]; exact Ar32.1) (State.isArrayOf_alike hZ.alike Ar32.2.1) Ar32.2.2 hin32 hat32 (g := (mkF m 88 #[.val (.ref ta), .val (.int (0 : Int32)), .val (.ref t2), .val (.int (0 : Int32)), .val (.int (1 : Int32)), .val (.int (0 : Int32)), .unset, .unset] [(.int (0 : Int32)), (.ref t2), (.int b0)])) rfl rfl (hb hby d23_88) _ ?_
    exact k
  by_cases hc33 : b0 = (37 : Int32)
  · skip
    refine WP.st (T' := s₁) (f' := (mkF m 98 #[.val (.ref ta), .val (.int (0 : Int32)), .val (.ref t2), .val (.int (0 : Int32)), .val (.int (1 : Int32)), .val (.int ((0 : Int32) + (1 : Int32))), .unset, .unset] [])) (fun t k => ?_) ?_
    · refine XS.icmpYes X0.here hx rfl (pc0 := 89) (pc' := 95) rfl (hb hby d23_89) rfl (teq hc33).1 (by decide) (by decide) ?_
      show Steps p.tables e below (s₁.setTop (mkF m 95 #[.val (.ref ta), .val (.int (0 : Int32)), .val (.ref t2), .val (.int (0 : Int32)), .val (.int (1 : Int32)), .val (.int (0 : Int32)), .unset, .unset] [])) t
      refine XS.iinc X0.here hx rfl (hb hby d23_95) rfl (l' := #[.val (.ref ta), .val (.int (0 : Int32)), .val (.ref t2), .val (.int (0 : Int32)), .val (.int (1 : Int32)), .val (.int ((0 : Int32) + (1 : Int32))), .unset, .unset]) rfl ?_
      exact k
    rw [show ((0 : Int32) + (1 : Int32)) = (1 : Int32) from by decide]
    show WP p.tables e below _ s₁ (mkF m 98 #[.val (.ref ta), .val (.int (0 : Int32)), .val (.ref t2), .val (.int (0 : Int32)), .val (.int (1 : Int32)), .val (.int (1 : Int32)), .unset, .unset] [])
    refine WP.st (T' := s₁) (f' := (mkF m 102 #[.val (.ref ta), .val (.int (0 : Int32)), .val (.ref t2), .val (.int (0 : Int32)), .val (.int (1 : Int32)), .val (.int (1 : Int32)), .unset, .unset] [(.int (-1 : Int32))])) (fun t k => ?_) ?_
    · refine XS.goto X0.here hx rfl (pc0 := 98) (pc' := 70) rfl (hb hby d23_98) (by decide) (by decide) ?_
      show Steps p.tables e below (s₁.setTop (mkF m 70 #[.val (.ref ta), .val (.int (0 : Int32)), .val (.ref t2), .val (.int (0 : Int32)), .val (.int (1 : Int32)), .val (.int (1 : Int32)), .unset, .unset] [])) t
      refine XS.iload X0.here hx rfl (hb hby d23_70) rfl ?_
      show Steps p.tables e below (s₁.setTop (mkF m 72 #[.val (.ref ta), .val (.int (0 : Int32)), .val (.ref t2), .val (.int (0 : Int32)), .val (.int (1 : Int32)), .val (.int (1 : Int32)), .unset, .unset] [(.int (1 : Int32))])) t
      refine XS.iload X0.here hx rfl (hb hby d23_72) rfl ?_
      show Steps p.tables e below (s₁.setTop (mkF m 74 #[.val (.ref ta), .val (.int (0 : Int32)), .val (.ref t2), .val (.int (0 : Int32)), .val (.int (1 : Int32)), .val (.int (1 : Int32)), .unset, .unset] [(.int (1 : Int32)), (.int (1 : Int32))])) t
      refine XS.icmpYes X0.here hx rfl (pc0 := 74) (pc' := 101) rfl (hb hby d23_74) rfl (flt (by decide : ¬ ((1 : Int32) < (1 : Int32)))).2.1 (by decide) (by decide) ?_
      show Steps p.tables e below (s₁.setTop (mkF m 101 #[.val (.ref ta), .val (.int (0 : Int32)), .val (.ref t2), .val (.int (0 : Int32)), .val (.int (1 : Int32)), .val (.int (1 : Int32)), .unset, .unset] [])) t
      refine XS.iconst X0.here hx rfl (hb hby d23_101) ?_
      exact k
    subst hG
    obtain ⟨fs, hr, hrun, hended, hW, hsame⟩ := X0.leave (v := some (.int (-1 : Int32))) (fun h => by rw [Bd.returns] at h; cases h)
    refine WP.fin ⟨_, _, ?_, hrun, hended, _, _, rfl, ?_, ⟨_, rfl⟩, hW, hsame.mono (by decide) (by decide)⟩
    · exact retI X0 hx Bd.returns (hb hby d23_102) hr
    · show Q23 Z ta t2 kb N2 vs kb2 b0 h0 n0 _ s₁.heap _
      rw [e0]
      exact ⟨(by simp [own_mm, hc33]), NF, rfl⟩
  · skip
    refine WP.st (T' := s₁) (f' := (mkF m 94 #[.val (.ref ta), .val (.int (0 : Int32)), .val (.ref t2), .val (.int (0 : Int32)), .val (.int (1 : Int32)), .val (.int (0 : Int32)), .unset, .unset] [(.int (0 : Int32))])) (fun t k => ?_) ?_
    · refine XS.icmpNo X0.here hx rfl (hb hby d23_89) rfl (feq hc33).1 ?_
      show Steps p.tables e below (s₁.setTop (mkF m 92 #[.val (.ref ta), .val (.int (0 : Int32)), .val (.ref t2), .val (.int (0 : Int32)), .val (.int (1 : Int32)), .val (.int (0 : Int32)), .unset, .unset] [])) t
      refine XS.iload X0.here hx rfl (hb hby d23_92) rfl ?_
      exact k
    subst hG
    obtain ⟨fs, hr, hrun, hended, hW, hsame⟩ := X0.leave (v := some (.int (0 : Int32))) (fun h => by rw [Bd.returns] at h; cases h)
    refine WP.fin ⟨_, _, ?_, hrun, hended, _, _, rfl, ?_, ⟨_, rfl⟩, hW, hsame.mono (by decide) (by decide)⟩
    · exact retI X0 hx Bd.returns (hb hby d23_94) hr
    · show Q23 Z ta t2 kb N2 vs kb2 b0 h0 n0 _ s₁.heap _
      rw [e0]
      exact ⟨(by simp [own_mm, hc33]), NF, rfl⟩
theorem ef_12 (m : MethodId) (z0 : Addr) (z1 : Addr) : entryFrame m #[(.ref z0), (.ref z1), (.int (0 : Int32))] 8 = mkF m 0 #[.val (.ref z0), .val (.ref z1), .val (.int (0 : Int32)), .unset, .unset, .unset, .unset, .unset] [] := by
  all_goals first | (simp [entryFrame, mkF, argsToLocals, Value.category]; done) | rfl
theorem d12_0 : decode jdk_42_method_75_code 0 = .ok (.iload_n 2, 1) := by decide +kernel
theorem d12_1 : decode jdk_42_method_75_code 1 = .ok (.ifCond .lt 16, 3) := by decide +kernel
theorem d12_4 : decode jdk_42_method_75_code 4 = .ok (.iload_n 2, 1) := by decide +kernel
theorem d12_5 : decode jdk_42_method_75_code 5 = .ok (.aload_n 0, 1) := by decide +kernel
theorem w_74 {a0 : Array Value} {Z : State} (hw : ∀ d ∈ tables_1, d.before a0 Z = true) : (Jvm.Cond.methodLink "java/lang/String" (505 : Nat) ({ cls := "java/lang/String", name := "length", desc := "()I" } : Jvm.MethodName)).before a0 Z = true := hw _ (List.mem_of_getElem? (i := 74) rfl)
theorem d12_6 : decode jdk_42_method_75_code 6 = .ok (.invokevirtual 505, 3) := by decide +kernel
theorem w_78 {a0 : Array Value} {Z : State} (hw : ∀ d ∈ tables_1, d.before a0 Z = true) : (Jvm.Cond.code ({ cls := "java/lang/String", name := "length", desc := "()I" } : Jvm.MethodName) jdk_42_method_54_code (1 : Nat) (Option.some Jvm.ClassFile.FieldType.int)).before a0 Z = true := hw _ (List.mem_of_getElem? (i := 78) rfl)
theorem pd_2 : parseMethodDescriptor "()I" = some ⟨[], some .int⟩ := by decide +kernel
theorem w_77 {a0 : Array Value} {Z : State} (hw : ∀ d ∈ tables_1, d.before a0 Z = true) : (Jvm.Cond.selects "java/lang/String" ({ cls := "java/lang/String", name := "length", desc := "()I" } : Jvm.MethodName) ({ cls := "java/lang/String", name := "length", desc := "()I" } : Jvm.MethodName)).before a0 Z = true := hw _ (List.mem_of_getElem? (i := 77) rfl)
theorem w_75 {a0 : Array Value} {Z : State} (hw : ∀ d ∈ tables_1, d.before a0 Z = true) : (Jvm.Cond.declares ({ cls := "java/lang/String", name := "length", desc := "()I" } : Jvm.MethodName)).before a0 Z = true := hw _ (List.mem_of_getElem? (i := 75) rfl)
theorem w_76 {a0 : Array Value} {Z : State} (hw : ∀ d ∈ tables_1, d.before a0 Z = true) : (Jvm.Cond.instanceMethod ({ cls := "java/lang/String", name := "length", desc := "()I" } : Jvm.MethodName)).before a0 Z = true := hw _ (List.mem_of_getElem? (i := 76) rfl)
theorem d12_9 : decode jdk_42_method_75_code 9 = .ok (.aload_n 1, 1) := by decide +kernel
theorem d12_10 : decode jdk_42_method_75_code 10 = .ok (.invokevirtual 505, 3) := by decide +kernel
theorem d12_13 : decode jdk_42_method_75_code 13 = .ok (.isub, 1) := by decide +kernel
theorem d12_14 : decode jdk_42_method_75_code 14 = .ok (.if_icmp .le 5, 3) := by decide +kernel
theorem d12_17 : decode jdk_42_method_75_code 17 = .ok (.iconst 0, 1) := by decide +kernel
theorem d12_18 : decode jdk_42_method_75_code 18 = .ok (.ireturn, 1) := by decide +kernel
theorem d12_19 : decode jdk_42_method_75_code 19 = .ok (.aload_n 0, 1) := by decide +kernel
theorem d12_20 : decode jdk_42_method_75_code 20 = .ok (.getfield 9, 3) := by decide +kernel
theorem d12_23 : decode jdk_42_method_75_code 23 = .ok (.astore_n 3, 1) := by decide +kernel
theorem d12_24 : decode jdk_42_method_75_code 24 = .ok (.aload_n 1, 1) := by decide +kernel
theorem d12_25 : decode jdk_42_method_75_code 25 = .ok (.getfield 9, 3) := by decide +kernel
theorem d12_28 : decode jdk_42_method_75_code 28 = .ok (.astore 4, 2) := by decide +kernel
theorem d12_30 : decode jdk_42_method_75_code 30 = .ok (.iconst 0, 1) := by decide +kernel
theorem d12_31 : decode jdk_42_method_75_code 31 = .ok (.istore 5, 2) := by decide +kernel
theorem d12_33 : decode jdk_42_method_75_code 33 = .ok (.aload 4, 2) := by decide +kernel
theorem d12_35 : decode jdk_42_method_75_code 35 = .ok (.arraylength, 1) := by decide +kernel
theorem d12_36 : decode jdk_42_method_75_code 36 = .ok (.istore 6, 2) := by decide +kernel
theorem d12_38 : decode jdk_42_method_75_code 38 = .ok (.aload_n 0, 1) := by decide +kernel
theorem d12_39 : decode jdk_42_method_75_code 39 = .ok (.invokevirtual 335, 3) := by decide +kernel
theorem d12_42 : decode jdk_42_method_75_code 42 = .ok (.istore 7, 2) := by decide +kernel
theorem d12_44 : decode jdk_42_method_75_code 44 = .ok (.iload 7, 2) := by decide +kernel
theorem d12_46 : decode jdk_42_method_75_code 46 = .ok (.aload_n 1, 1) := by decide +kernel
theorem d12_47 : decode jdk_42_method_75_code 47 = .ok (.invokevirtual 335, 3) := by decide +kernel
theorem d12_50 : decode jdk_42_method_75_code 50 = .ok (.if_icmp .ne 32, 3) := by decide +kernel
theorem d12_53 : decode jdk_42_method_75_code 53 = .ok (.iload 7, 2) := by decide +kernel
theorem d12_55 : decode jdk_42_method_75_code 55 = .ok (.iconst 1, 1) := by decide +kernel
theorem d12_56 : decode jdk_42_method_75_code 56 = .ok (.if_icmp .ne 7, 3) := by decide +kernel
theorem d12_63 : decode jdk_42_method_75_code 63 = .ok (.aload_n 3, 1) := by decide +kernel
theorem d12_64 : decode jdk_42_method_75_code 64 = .ok (.iload_n 2, 1) := by decide +kernel
theorem d12_65 : decode jdk_42_method_75_code 65 = .ok (.aload 4, 2) := by decide +kernel
theorem d12_67 : decode jdk_42_method_75_code 67 = .ok (.iconst 0, 1) := by decide +kernel
theorem d12_68 : decode jdk_42_method_75_code 68 = .ok (.iload 6, 2) := by decide +kernel
theorem w_129 {a0 : Array Value} {Z : State} (hw : ∀ d ∈ tables_1, d.before a0 Z = true) : (Jvm.Cond.methodLink "java/lang/String" (607 : Nat) ({ cls := "jdk/internal/util/ArraysSupport", name := "mismatch", desc := "([BI[BII)I" } : Jvm.MethodName)).before a0 Z = true := hw _ (List.mem_of_getElem? (i := 129) rfl)
theorem d12_70 : decode jdk_42_method_75_code 70 = .ok (.invokestatic 607, 3) := by decide +kernel
theorem w_132 {a0 : Array Value} {Z : State} (hw : ∀ d ∈ tables_1, d.before a0 Z = true) : (Jvm.Cond.code ({ cls := "jdk/internal/util/ArraysSupport", name := "mismatch", desc := "([BI[BII)I" } : Jvm.MethodName) jdk_48_method_14_code (8 : Nat) (Option.some Jvm.ClassFile.FieldType.int)).before a0 Z = true := hw _ (List.mem_of_getElem? (i := 132) rfl)
theorem w_131 {a0 : Array Value} {Z : State} (hw : ∀ d ∈ tables_1, d.before a0 Z = true) : (Jvm.Cond.initialized "jdk/internal/util/ArraysSupport").before a0 Z = true := hw _ (List.mem_of_getElem? (i := 131) rfl)
theorem pd_3 : parseMethodDescriptor "([BI[BII)I" = some ⟨[(.array .byte), .int, (.array .byte), .int, .int], some .int⟩ := by decide +kernel
theorem w_130 {a0 : Array Value} {Z : State} (hw : ∀ d ∈ tables_1, d.before a0 Z = true) : (Jvm.Cond.static ({ cls := "jdk/internal/util/ArraysSupport", name := "mismatch", desc := "([BI[BII)I" } : Jvm.MethodName)).before a0 Z = true := hw _ (List.mem_of_getElem? (i := 130) rfl)
theorem d12_73 : decode jdk_42_method_75_code 73 = .ok (.ifCond .ge 7, 3) := by decide +kernel
theorem d12_76 : decode jdk_42_method_75_code 76 = .ok (.iconst 1, 1) := by decide +kernel
theorem d12_77 : decode jdk_42_method_75_code 77 = .ok (.goto 4, 3) := by decide +kernel
theorem d12_81 : decode jdk_42_method_75_code 81 = .ok (.ireturn, 1) := by decide +kernel
theorem d12_80 : decode jdk_42_method_75_code 80 = .ok (.iconst 0, 1) := by decide +kernel
def Q12 (Z : State) (a1 : Addr) (a2 : Addr) (ta : Addr) (kb : ClassId) (cs : List Int32) (t2 : Addr) (kb2 : ClassId) (gC : Int32) (h0 : Heap) (n0 : Nat) (v : Option Value) (h : Heap) (L : List Loc) : Prop := v = some (.int (own_isP cs)) ∧ Fr n0 L ∧ h = h0
set_option maxRecDepth 65536 in
set_option maxHeartbeats 40000000 in
theorem rm12 (l : Launch) (Z : State) (a0 : Array Value) (hw : ∀ d ∈ tables_1, d.before a0 Z = true) (wsC : List Jvm.Cond) (a1 : Addr) (a2 : Addr) (ta : Addr) (kb : ClassId) (cs : List Int32) (t2 : Addr) (kb2 : ClassId) (gC : Int32) (h0 : Heap) (n0 : Nat) (Z0 : n0 ≤ h0.size) (E_a1 : Exa Z h0 a1 "java/lang/String") (F_a1_value : Fld Z h0 a1 "java/lang/String" "value" "[B" (.ref ta)) (F_a1_coder : Fld Z h0 a1 "java/lang/String" "coder" "B" (.int (0 : Int32))) (V_ta : Arv Z h0 ta kb .byte (Int32.ofNat cs.length) ((cs.map (fun c => c.toInt8.toInt32)).map Value.int) (.int (0 : Int32))) (E_a2 : Exa Z h0 a2 "java/lang/String") (F_a2_value : Fld Z h0 a2 "java/lang/String" "value" "[B" (.ref t2)) (F_a2_coder : Fld Z h0 a2 "java/lang/String" "coder" "B" (.int (0 : Int32))) (V_t2 : Arv Z h0 t2 kb2 .byte (1 : Int32) [(.int (37 : Int32))] (.int (0 : Int32))) (hcs : ∀ c ∈ cs, own_byte c) (hcl : cs.length ≤ 2) (OLD : Old Z n0 h0) (O2 : Sta Z Z.heap "java/lang/String" "COMPACT_STRINGS" "Z" (.int gC)) (hz : ¬ gC = (0 : Int32)) :
    MetFree l (⟨"java/lang/String", "startsWith", "(Ljava/lang/String;I)Z"⟩ : MethodName) (head1 (Jvm.Cond.code (⟨"java/lang/String", "startsWith", "(Ljava/lang/String;I)Z"⟩ : MethodName) jdk_42_method_75_code 8 (some .boolean) :: wsC) ({ frames := 2, cells := 0, slots := 0, locals := 27 } : Room)) (fun a U => a = #[(.ref a1), (.ref a2), (.int (0 : Int32))] ∧ Z.Warmed39 U.vm ∧ U.heap = h0) (fun _ _ _ _ _ => True) (fun _ U o U' => ∃ v L, o = .returned v ∧ Q12 Z a1 a2 ta kb cs t2 kb2 gC h0 n0 v U'.heap L ∧ FrameEnd U o U' L ({ frames := 2, cells := 0, slots := 0, locals := 27 } : Room).cells ({ frames := 2, cells := 0, slots := 0, locals := 27 } : Room).slots) := by
  refine MetFree.of_bodySF (plainFor_of_name pn_0) hisR ?_
  intro p e s m args below meth c s₁ Bd hml0 hP hK
  obtain ⟨rfl, hZ, hh⟩ := hP
  have hx := Bd.exec
  have hby := Bd.bytes
  have hml : c.maxLocals = 8 := hml0
  have hown : s.vm.findClass "java/lang/String" = some m.cls := findClass_of_methodNamed Bd.named
  have hnm := (name_of_methodNamed Bd.named Bd.method).1
  have X0 : Stand p l e ({ frames := 2, cells := 0, slots := 0, locals := 27 } : Room) s m #[(.ref a1), (.ref a2), (.int (0 : Int32))] below meth c s₁ [] 0 0 := Stand.of_body Bd
  skip
  have e0 : s₁.heap = h0 := by rw [← hh, Bd.state]; rfl
  have NF := Fr.nil n0
  refine WP.go ?_
  refine WP.cast (ef_12 m a1 a2) ?_
  refine WP.name ?_
  intro G hG
  refine WP.st (T' := s₁) (f' := (mkF m 6 #[.val (.ref a1), .val (.ref a2), .val (.int (0 : Int32)), .unset, .unset, .unset, .unset, .unset] [(.ref a1), (.int (0 : Int32))])) (fun t k => ?_) ?_
  · refine XS.iloadN X0.here hx rfl (hb hby d12_0) rfl ?_
    show Steps p.tables e below (s₁.setTop (mkF m 1 #[.val (.ref a1), .val (.ref a2), .val (.int (0 : Int32)), .unset, .unset, .unset, .unset, .unset] [(.int (0 : Int32))])) t
    refine XS.ifNo X0.here hx rfl (hb hby d12_1) rfl ((if0 _ _).trans (flt (by decide : ¬ ((0 : Int32) < (0 : Int32)))).1) ?_
    show Steps p.tables e below (s₁.setTop (mkF m 4 #[.val (.ref a1), .val (.ref a2), .val (.int (0 : Int32)), .unset, .unset, .unset, .unset, .unset] [])) t
    refine XS.iloadN X0.here hx rfl (hb hby d12_4) rfl ?_
    show Steps p.tables e below (s₁.setTop (mkF m 5 #[.val (.ref a1), .val (.ref a2), .val (.int (0 : Int32)), .unset, .unset, .unset, .unset, .unset] [(.int (0 : Int32))])) t
    refine XS.aloadN X0.here hx rfl (hb hby d12_5) rfl rfl ?_
    exact k
  obtain ⟨cq34, kq34, q34a, q34b, q34c⟩ := isOf hZ e0 E_a1
  obtain ⟨_, _, ⟨T34, L34, k34, n34⟩, -, X34, ⟨Lc34, hQ34, l34, y34, z34⟩, st34⟩ := X0.virtualBack hx (y := (⟨"java/lang/String", "length", "()I"⟩ : MethodName)) (z := (⟨"java/lang/String", "length", "()I"⟩ : MethodName)) hown (mvT hZ (w_74 hw)) (mvT hZ (w_75 hw)) (notFace_of_selects (args := #[]) (mvT hZ (w_77 hw))) (mvT hZ (w_77 hw)) (mvT hZ (w_76 hw)) (by decide) (backOf (W := 1) (rm13 l Z a0 hw [] a1 ta kb (Int32.ofNat cs.length) ((cs.map (fun c => c.toInt8.toInt32)).map Value.int) (.int (0 : Int32)) gC h0 n0 Z0 E_a1 F_a1_value F_a1_coder V_ta OLD (O2 : Sta Z Z.heap "java/lang/String" "COMPACT_STRINGS" "Z" (.int gC)) (hz : ¬ gC = (0 : Int32))) hZ (w_78 hw) (w_6 hw) (by decide) (by decide)) q34a q34c (g := (mkF m 6 #[.val (.ref a1), .val (.ref a2), .val (.int (0 : Int32)), .unset, .unset, .unset, .unset, .unset] [(.ref a1), (.int (0 : Int32))])) rfl (by rw [hml]; rfl) (Steps.refl _) (argsL := []) (rest := [(.int (0 : Int32))]) (lenOf pd_2 rfl) rfl (by show 2 * 0 + _ ≤ _; exact Nat.le_of_eq rfl) (hb hby d12_6) (fun _ _ => ⟨rfl, e0, (by decide : 0 + 0 ≤ _), (by decide : 0 + 0 ≤ _)⟩)
  dsimp only [Pt.U, Pt.locs, Pt.cells, Pt.slots] at X34 l34 y34 z34 st34 hQ34
  subst l34 y34 z34
  obtain ⟨rfl, Nq34, Kq34⟩ := hQ34
  replace NF := Fr.app NF Nq34
  clear Nq34
  refine WP.tr st34 ?_
  clear st34
  replace Kq34 := Kq34.trans (rfl : h0 = h0)
  have hXN : ∃ LL, Stand p l e ({ frames := 2, cells := 0, slots := 0, locals := 27 } : Room) s m #[(.ref a1), (.ref a2), (.int (0 : Int32))] below meth c T34 LL 0 0 ∧ Fr n0 LL := ⟨_, X34, NF⟩
  clear X34 NF
  obtain ⟨LL35, X34, NF⟩ := hXN
  show WP p.tables e below _ T34 (mkF m 9 #[.val (.ref a1), .val (.ref a2), .val (.int (0 : Int32)), .unset, .unset, .unset, .unset, .unset] [(.int (Int32.ofNat cs.length)), (.int (0 : Int32))])
  refine WP.st (T' := T34) (f' := (mkF m 10 #[.val (.ref a1), .val (.ref a2), .val (.int (0 : Int32)), .unset, .unset, .unset, .unset, .unset] [(.ref a2), (.int (Int32.ofNat cs.length)), (.int (0 : Int32))])) (fun t k => ?_) ?_
  · refine XS.aloadN X34.here hx rfl (hb hby d12_9) rfl rfl ?_
    exact k
  obtain ⟨cq36, kq36, q36a, q36b, q36c⟩ := isOf hZ Kq34 E_a2
  obtain ⟨_, _, ⟨T36, L36, k36, n36⟩, -, X36, ⟨Lc36, hQ36, l36, y36, z36⟩, st36⟩ := X34.virtualBack hx (y := (⟨"java/lang/String", "length", "()I"⟩ : MethodName)) (z := (⟨"java/lang/String", "length", "()I"⟩ : MethodName)) hown (mvT hZ (w_74 hw)) (mvT hZ (w_75 hw)) (notFace_of_selects (args := #[]) (mvT hZ (w_77 hw))) (mvT hZ (w_77 hw)) (mvT hZ (w_76 hw)) (by decide) (backOf (W := 2) (rm13 l Z a0 hw [] a2 t2 kb2 (1 : Int32) [(.int (37 : Int32))] (.int (0 : Int32)) gC h0 n0 Z0 E_a2 F_a2_value F_a2_coder V_t2 OLD (O2 : Sta Z Z.heap "java/lang/String" "COMPACT_STRINGS" "Z" (.int gC)) (hz : ¬ gC = (0 : Int32))) hZ (w_78 hw) (w_6 hw) (by decide) (by decide)) q36a q36c (g := (mkF m 10 #[.val (.ref a1), .val (.ref a2), .val (.int (0 : Int32)), .unset, .unset, .unset, .unset, .unset] [(.ref a2), (.int (Int32.ofNat cs.length)), (.int (0 : Int32))])) rfl (by rw [hml]; rfl) (Steps.refl _) (argsL := []) (rest := [(.int (Int32.ofNat cs.length)), (.int (0 : Int32))]) (lenOf pd_2 rfl) rfl (by show 2 * 0 + _ ≤ _; exact Nat.le_of_eq rfl) (hb hby d12_10) (fun _ _ => ⟨rfl, Kq34, (by decide : 0 + 0 ≤ _), (by decide : 0 + 0 ≤ _)⟩)
  dsimp only [Pt.U, Pt.locs, Pt.cells, Pt.slots] at X36 l36 y36 z36 st36 hQ36
  subst l36 y36 z36
  obtain ⟨rfl, Nq36, Kq36⟩ := hQ36
  replace NF := Fr.app NF Nq36
  clear Nq36
  refine WP.tr st36 ?_
  clear st36
  replace Kq36 := Kq36.trans (rfl : h0 = h0)
  have hXN : ∃ LL, Stand p l e ({ frames := 2, cells := 0, slots := 0, locals := 27 } : Room) s m #[(.ref a1), (.ref a2), (.int (0 : Int32))] below meth c T36 LL 0 0 ∧ Fr n0 LL := ⟨_, X36, NF⟩
  clear X36 NF
  obtain ⟨LL37, X36, NF⟩ := hXN
  show WP p.tables e below _ T36 (mkF m 13 #[.val (.ref a1), .val (.ref a2), .val (.int (0 : Int32)), .unset, .unset, .unset, .unset, .unset] [(.int (1 : Int32)), (.int (Int32.ofNat cs.length)), (.int (0 : Int32))])
  refine WP.st (T' := T36) (f' := (mkF m 14 #[.val (.ref a1), .val (.ref a2), .val (.int (0 : Int32)), .unset, .unset, .unset, .unset, .unset] [(.int ((Int32.ofNat cs.length) - (1 : Int32))), (.int (0 : Int32))])) (fun t k => ?_) ?_
  · refine XS.isub X36.here hx rfl (hb hby d12_13) rfl ?_
    exact k
  by_cases hc38 : ((Int32.ofNat cs.length) - (1 : Int32)) < (0 : Int32)
  · skip
    refine WP.st (T' := T36) (f' := (mkF m 18 #[.val (.ref a1), .val (.ref a2), .val (.int (0 : Int32)), .unset, .unset, .unset, .unset, .unset] [(.int (0 : Int32))])) (fun t k => ?_) ?_
    · refine XS.icmpNo X36.here hx rfl (hb hby d12_14) rfl (tlt hc38).2.2.2 ?_
      show Steps p.tables e below (T36.setTop (mkF m 17 #[.val (.ref a1), .val (.ref a2), .val (.int (0 : Int32)), .unset, .unset, .unset, .unset, .unset] [])) t
      refine XS.iconst X36.here hx rfl (hb hby d12_17) ?_
      exact k
    subst hG
    obtain ⟨fs, hr, hrun, hended, hW, hsame⟩ := X36.leave (v := some (.int (0 : Int32))) (fun h => by rw [Bd.returns] at h; cases h)
    refine WP.fin ⟨_, _, ?_, hrun, hended, _, _, rfl, ?_, ⟨_, rfl⟩, hW, hsame.mono (by decide) (by decide)⟩
    · exact retN X36 hx (t := .boolean) Bd.returns (by simp) (hb hby d12_18) hr
    · show Q12 Z a1 a2 ta kb cs t2 kb2 gC h0 n0 _ T36.heap _
      rw [Kq36]
      exact ⟨(by rw [own_short hcl hc38]), NF, rfl⟩
  · skip
    refine WP.st (T' := T36) (f' := (mkF m 20 #[.val (.ref a1), .val (.ref a2), .val (.int (0 : Int32)), .unset, .unset, .unset, .unset, .unset] [(.ref a1)])) (fun t k => ?_) ?_
    · refine XS.icmpYes X36.here hx rfl (pc0 := 14) (pc' := 19) rfl (hb hby d12_14) rfl (flt hc38).2.2.2 (by decide) (by decide) ?_
      show Steps p.tables e below (T36.setTop (mkF m 19 #[.val (.ref a1), .val (.ref a2), .val (.int (0 : Int32)), .unset, .unset, .unset, .unset, .unset] [])) t
      refine XS.aloadN X36.here hx rfl (hb hby d12_19) rfl rfl ?_
      exact k
    obtain ⟨T39, X39, e39, st39⟩ := getF X36 hx hZ hown (host := "") (Or.inl (w_24 hw)) Via.refl Kq36 F_a1_value (g := (mkF m 20 #[.val (.ref a1), .val (.ref a2), .val (.int (0 : Int32)), .unset, .unset, .unset, .unset, .unset] [(.ref a1)])) rfl rfl (hb hby d12_20)
    refine WP.st st39 ?_
    clear st39
    show WP p.tables e below _ T39 (mkF m 23 #[.val (.ref a1), .val (.ref a2), .val (.int (0 : Int32)), .unset, .unset, .unset, .unset, .unset] [(.ref ta)])
    refine WP.st (T' := T39) (f' := (mkF m 25 #[.val (.ref a1), .val (.ref a2), .val (.int (0 : Int32)), .val (.ref ta), .unset, .unset, .unset, .unset] [(.ref a2)])) (fun t k => ?_) ?_
    · refine XS.astoreN X39.here hx rfl (hb hby d12_23) rfl rfl (l' := #[.val (.ref a1), .val (.ref a2), .val (.int (0 : Int32)), .val (.ref ta), .unset, .unset, .unset, .unset]) rfl ?_
      show Steps p.tables e below (T39.setTop (mkF m 24 #[.val (.ref a1), .val (.ref a2), .val (.int (0 : Int32)), .val (.ref ta), .unset, .unset, .unset, .unset] [])) t
      refine XS.aloadN X39.here hx rfl (hb hby d12_24) rfl rfl ?_
      exact k
    obtain ⟨T40, X40, e40, st40⟩ := getF X39 hx hZ hown (host := "") (Or.inl (w_24 hw)) Via.refl e39 F_a2_value (g := (mkF m 25 #[.val (.ref a1), .val (.ref a2), .val (.int (0 : Int32)), .val (.ref ta), .unset, .unset, .unset, .unset] [(.ref a2)])) rfl rfl (hb hby d12_25)
    refine WP.st st40 ?_
    clear st40
    show WP p.tables e below _ T40 (mkF m 28 #[.val (.ref a1), .val (.ref a2), .val (.int (0 : Int32)), .val (.ref ta), .unset, .unset, .unset, .unset] [(.ref t2)])
    refine WP.st (T' := T40) (f' := (mkF m 35 #[.val (.ref a1), .val (.ref a2), .val (.int (0 : Int32)), .val (.ref ta), .val (.ref t2), .val (.int (0 : Int32)), .unset, .unset] [(.ref t2)])) (fun t k => ?_) ?_
    · refine XS.astore X40.here hx rfl (hb hby d12_28) rfl rfl (l' := #[.val (.ref a1), .val (.ref a2), .val (.int (0 : Int32)), .val (.ref ta), .val (.ref t2), .unset, .unset, .unset]) rfl ?_
      show Steps p.tables e below (T40.setTop (mkF m 30 #[.val (.ref a1), .val (.ref a2), .val (.int (0 : Int32)), .val (.ref ta), .val (.ref t2), .unset, .unset, .unset] [])) t
      refine XS.iconst X40.here hx rfl (hb hby d12_30) ?_
      show Steps p.tables e below (T40.setTop (mkF m 31 #[.val (.ref a1), .val (.ref a2), .val (.int (0 : Int32)), .val (.ref ta), .val (.ref t2), .unset, .unset, .unset] [(.int (0 : Int32))])) t
      refine XS.istore X40.here hx rfl (hb hby d12_31) rfl (l' := #[.val (.ref a1), .val (.ref a2), .val (.int (0 : Int32)), .val (.ref ta), .val (.ref t2), .val (.int (0 : Int32)), .unset, .unset]) rfl ?_
      show Steps p.tables e below (T40.setTop (mkF m 33 #[.val (.ref a1), .val (.ref a2), .val (.int (0 : Int32)), .val (.ref ta), .val (.ref t2), .val (.int (0 : Int32)), .unset, .unset] [])) t
      refine XS.aload X40.here hx rfl (hb hby d12_33) rfl rfl ?_
      exact k
    obtain ⟨cl41, Ar41, len41⟩ := V_t2.len
    refine WP.st (T' := T40) (f' := (mkF m 39 #[.val (.ref a1), .val (.ref a2), .val (.int (0 : Int32)), .val (.ref ta), .val (.ref t2), .val (.int (0 : Int32)), .val (.int (1 : Int32)), .unset] [(.ref a1)])) (fun t k => ?_) ?_
    · refine X40.arraylength hx (by rw [e40]; exact Ar41.1) (State.isArrayOf_alike hZ.alike Ar41.2.1) (g := (mkF m 35 #[.val (.ref a1), .val (.ref a2), .val (.int (0 : Int32)), .val (.ref ta), .val (.ref t2), .val (.int (0 : Int32)), .unset, .unset] [(.ref t2)])) rfl rfl (hb hby d12_35) _ ?_
      rw [len41]
      show Steps p.tables e below (T40.setTop (mkF m 36 #[.val (.ref a1), .val (.ref a2), .val (.int (0 : Int32)), .val (.ref ta), .val (.ref t2), .val (.int (0 : Int32)), .unset, .unset] [(.int (1 : Int32))])) t
      refine XS.istore X40.here hx rfl (hb hby d12_36) rfl (l' := #[.val (.ref a1), .val (.ref a2), .val (.int (0 : Int32)), .val (.ref ta), .val (.ref t2), .val (.int (0 : Int32)), .val (.int (1 : Int32)), .unset]) rfl ?_
      show Steps p.tables e below (T40.setTop (mkF m 38 #[.val (.ref a1), .val (.ref a2), .val (.int (0 : Int32)), .val (.ref ta), .val (.ref t2), .val (.int (0 : Int32)), .val (.int (1 : Int32)), .unset] [])) t
      refine XS.aloadN X40.here hx rfl (hb hby d12_38) rfl rfl ?_
      exact k
    obtain ⟨cq42, kq42, q42a, q42b, q42c⟩ := isOf hZ e40 E_a1
    obtain ⟨_, _, ⟨T42, L42, k42, n42⟩, -, X42, ⟨Lc42, hQ42, l42, y42, z42⟩, st42⟩ := X40.virtualBack hx (y := (⟨"java/lang/String", "coder", "()B"⟩ : MethodName)) (z := (⟨"java/lang/String", "coder", "()B"⟩ : MethodName)) hown (mvT hZ (w_79 hw)) (mvT hZ (w_80 hw)) (notFace_of_selects (args := #[]) (mvT hZ (w_82 hw))) (mvT hZ (w_82 hw)) (mvT hZ (w_81 hw)) (by decide) (backOf (W := 0) (rm14 l Z a0 hw [] a1 gC h0 n0 Z0 F_a1_coder OLD (O2 : Sta Z Z.heap "java/lang/String" "COMPACT_STRINGS" "Z" (.int gC)) (hz : ¬ gC = (0 : Int32))) hZ (w_83 hw) (w_6 hw) (by decide) (by decide)) q42a q42c (g := (mkF m 39 #[.val (.ref a1), .val (.ref a2), .val (.int (0 : Int32)), .val (.ref ta), .val (.ref t2), .val (.int (0 : Int32)), .val (.int (1 : Int32)), .unset] [(.ref a1)])) rfl (by rw [hml]; rfl) (Steps.refl _) (argsL := []) (rest := []) (lenOf pd_1 rfl) rfl (by show 2 * 0 + _ ≤ _; exact Nat.le_of_eq rfl) (hb hby d12_39) (fun _ _ => ⟨rfl, e40, (by decide : 0 + 0 ≤ _), (by decide : 0 + 0 ≤ _)⟩)
    dsimp only [Pt.U, Pt.locs, Pt.cells, Pt.slots] at X42 l42 y42 z42 st42 hQ42
    subst l42 y42 z42
    obtain ⟨rfl, Nq42, Kq42⟩ := hQ42
    replace NF := Fr.app NF Nq42
    clear Nq42
    refine WP.tr st42 ?_
    clear st42
    replace Kq42 := Kq42.trans (rfl : h0 = h0)
    have hXN : ∃ LL, Stand p l e ({ frames := 2, cells := 0, slots := 0, locals := 27 } : Room) s m #[(.ref a1), (.ref a2), (.int (0 : Int32))] below meth c T42 LL 0 0 ∧ Fr n0 LL := ⟨_, X42, NF⟩
    clear X42 NF
    obtain ⟨LL43, X42, NF⟩ := hXN
    show WP p.tables e below _ T42 (mkF m 42 #[.val (.ref a1), .val (.ref a2), .val (.int (0 : Int32)), .val (.ref ta), .val (.ref t2), .val (.int (0 : Int32)), .val (.int (1 : Int32)), .unset] [(.int (0 : Int32))])
    refine WP.st (T' := T42) (f' := (mkF m 47 #[.val (.ref a1), .val (.ref a2), .val (.int (0 : Int32)), .val (.ref ta), .val (.ref t2), .val (.int (0 : Int32)), .val (.int (1 : Int32)), .val (.int (0 : Int32))] [(.ref a2), (.int (0 : Int32))])) (fun t k => ?_) ?_
    · refine XS.istore X42.here hx rfl (hb hby d12_42) rfl (l' := #[.val (.ref a1), .val (.ref a2), .val (.int (0 : Int32)), .val (.ref ta), .val (.ref t2), .val (.int (0 : Int32)), .val (.int (1 : Int32)), .val (.int (0 : Int32))]) rfl ?_
      show Steps p.tables e below (T42.setTop (mkF m 44 #[.val (.ref a1), .val (.ref a2), .val (.int (0 : Int32)), .val (.ref ta), .val (.ref t2), .val (.int (0 : Int32)), .val (.int (1 : Int32)), .val (.int (0 : Int32))] [])) t
      refine XS.iload X42.here hx rfl (hb hby d12_44) rfl ?_
      show Steps p.tables e below (T42.setTop (mkF m 46 #[.val (.ref a1), .val (.ref a2), .val (.int (0 : Int32)), .val (.ref ta), .val (.ref t2), .val (.int (0 : Int32)), .val (.int (1 : Int32)), .val (.int (0 : Int32))] [(.int (0 : Int32))])) t
      refine XS.aloadN X42.here hx rfl (hb hby d12_46) rfl rfl ?_
      exact k
    obtain ⟨cq44, kq44, q44a, q44b, q44c⟩ := isOf hZ Kq42 E_a2
    obtain ⟨_, _, ⟨T44, L44, k44, n44⟩, -, X44, ⟨Lc44, hQ44, l44, y44, z44⟩, st44⟩ := X42.virtualBack hx (y := (⟨"java/lang/String", "coder", "()B"⟩ : MethodName)) (z := (⟨"java/lang/String", "coder", "()B"⟩ : MethodName)) hown (mvT hZ (w_79 hw)) (mvT hZ (w_80 hw)) (notFace_of_selects (args := #[]) (mvT hZ (w_82 hw))) (mvT hZ (w_82 hw)) (mvT hZ (w_81 hw)) (by decide) (backOf (W := 1) (rm14 l Z a0 hw [] a2 gC h0 n0 Z0 F_a2_coder OLD (O2 : Sta Z Z.heap "java/lang/String" "COMPACT_STRINGS" "Z" (.int gC)) (hz : ¬ gC = (0 : Int32))) hZ (w_83 hw) (w_6 hw) (by decide) (by decide)) q44a q44c (g := (mkF m 47 #[.val (.ref a1), .val (.ref a2), .val (.int (0 : Int32)), .val (.ref ta), .val (.ref t2), .val (.int (0 : Int32)), .val (.int (1 : Int32)), .val (.int (0 : Int32))] [(.ref a2), (.int (0 : Int32))])) rfl (by rw [hml]; rfl) (Steps.refl _) (argsL := []) (rest := [(.int (0 : Int32))]) (lenOf pd_1 rfl) rfl (by show 2 * 0 + _ ≤ _; exact Nat.le_of_eq rfl) (hb hby d12_47) (fun _ _ => ⟨rfl, Kq42, (by decide : 0 + 0 ≤ _), (by decide : 0 + 0 ≤ _)⟩)
    dsimp only [Pt.U, Pt.locs, Pt.cells, Pt.slots] at X44 l44 y44 z44 st44 hQ44
    subst l44 y44 z44
    obtain ⟨rfl, Nq44, Kq44⟩ := hQ44
    replace NF := Fr.app NF Nq44
    clear Nq44
    refine WP.tr st44 ?_
    clear st44
    replace Kq44 := Kq44.trans (rfl : h0 = h0)
    have hXN : ∃ LL, Stand p l e ({ frames := 2, cells := 0, slots := 0, locals := 27 } : Room) s m #[(.ref a1), (.ref a2), (.int (0 : Int32))] below meth c T44 LL 0 0 ∧ Fr n0 LL := ⟨_, X44, NF⟩
    clear X44 NF
    obtain ⟨LL45, X44, NF⟩ := hXN
    show WP p.tables e below _ T44 (mkF m 50 #[.val (.ref a1), .val (.ref a2), .val (.int (0 : Int32)), .val (.ref ta), .val (.ref t2), .val (.int (0 : Int32)), .val (.int (1 : Int32)), .val (.int (0 : Int32))] [(.int (0 : Int32)), (.int (0 : Int32))])
    refine WP.st (T' := T44) (f' := (mkF m 70 #[.val (.ref a1), .val (.ref a2), .val (.int (0 : Int32)), .val (.ref ta), .val (.ref t2), .val (.int (0 : Int32)), .val (.int (1 : Int32)), .val (.int (0 : Int32))] [(.int (1 : Int32)), (.int (0 : Int32)), (.ref t2), (.int (0 : Int32)), (.ref ta)])) (fun t k => ?_) ?_
    · refine XS.icmpNo X44.here hx rfl (hb hby d12_50) rfl (teq (by decide : (0 : Int32) = (0 : Int32))).2 ?_
      show Steps p.tables e below (T44.setTop (mkF m 53 #[.val (.ref a1), .val (.ref a2), .val (.int (0 : Int32)), .val (.ref ta), .val (.ref t2), .val (.int (0 : Int32)), .val (.int (1 : Int32)), .val (.int (0 : Int32))] [])) t
      refine XS.iload X44.here hx rfl (hb hby d12_53) rfl ?_
      show Steps p.tables e below (T44.setTop (mkF m 55 #[.val (.ref a1), .val (.ref a2), .val (.int (0 : Int32)), .val (.ref ta), .val (.ref t2), .val (.int (0 : Int32)), .val (.int (1 : Int32)), .val (.int (0 : Int32))] [(.int (0 : Int32))])) t
      refine XS.iconst X44.here hx rfl (hb hby d12_55) ?_
      show Steps p.tables e below (T44.setTop (mkF m 56 #[.val (.ref a1), .val (.ref a2), .val (.int (0 : Int32)), .val (.ref ta), .val (.ref t2), .val (.int (0 : Int32)), .val (.int (1 : Int32)), .val (.int (0 : Int32))] [(.int (1 : Int32)), (.int (0 : Int32))])) t
      refine XS.icmpYes X44.here hx rfl (pc0 := 56) (pc' := 63) rfl (hb hby d12_56) rfl (feq (by decide : ¬ ((0 : Int32) = (1 : Int32)))).2 (by decide) (by decide) ?_
      show Steps p.tables e below (T44.setTop (mkF m 63 #[.val (.ref a1), .val (.ref a2), .val (.int (0 : Int32)), .val (.ref ta), .val (.ref t2), .val (.int (0 : Int32)), .val (.int (1 : Int32)), .val (.int (0 : Int32))] [])) t
      refine XS.aloadN X44.here hx rfl (hb hby d12_63) rfl rfl ?_
      show Steps p.tables e below (T44.setTop (mkF m 64 #[.val (.ref a1), .val (.ref a2), .val (.int (0 : Int32)), .val (.ref ta), .val (.ref t2), .val (.int (0 : Int32)), .val (.int (1 : Int32)), .val (.int (0 : Int32))] [(.ref ta)])) t
      refine XS.iloadN X44.here hx rfl (hb hby d12_64) rfl ?_
      show Steps p.tables e below (T44.setTop (mkF m 65 #[.val (.ref a1), .val (.ref a2), .val (.int (0 : Int32)), .val (.ref ta), .val (.ref t2), .val (.int (0 : Int32)), .val (.int (1 : Int32)), .val (.int (0 : Int32))] [(.int (0 : Int32)), (.ref ta)])) t
      refine XS.aload X44.here hx rfl (hb hby d12_65) rfl rfl ?_
      show Steps p.tables e below (T44.setTop (mkF m 67 #[.val (.ref a1), .val (.ref a2), .val (.int (0 : Int32)), .val (.ref ta), .val (.ref t2), .val (.int (0 : Int32)), .val (.int (1 : Int32)), .val (.int (0 : Int32))] [(.ref t2), (.int (0 : Int32)), (.ref ta)])) t
      refine XS.iconst X44.here hx rfl (hb hby d12_67) ?_
      show Steps p.tables e below (T44.setTop (mkF m 68 #[.val (.ref a1), .val (.ref a2), .val (.int (0 : Int32)), .val (.ref ta), .val (.ref t2), .val (.int (0 : Int32)), .val (.int (1 : Int32)), .val (.int (0 : Int32))] [(.int (0 : Int32)), (.ref t2), (.int (0 : Int32)), (.ref ta)])) t
      refine XS.iload X44.here hx rfl (hb hby d12_68) rfl ?_
      exact k
    obtain ⟨_, _, ⟨T46, L46, k46, n46⟩, -, X46, ⟨Lc46, hQ46, l46, y46, z46⟩, st46⟩ := Jvm.LawKit.callS X44 hx (y := (⟨"jdk/internal/util/ArraysSupport", "mismatch", "([BI[BII)I"⟩ : MethodName)) hown (mvT hZ (w_129 hw)) (mvT hZ (w_130 hw)) (mvT hZ (w_131 hw)) (mvT hZ (w_132 hw)) (by decide) (backOf (W := 0) (rm23 l Z a0 hw [] ta t2 kb (Int32.ofNat cs.length) ((cs.map (fun c => c.toInt8.toInt32)).map Value.int) kb2 ((cs.getD 0 0).toInt8.toInt32) h0 n0 Z0 V_ta V_t2 (own_pos hcl hc38 : (0 : Int32) < (Int32.ofNat cs.length)) (own_v0 cs : ((cs.map (fun c => c.toInt8.toInt32)).map Value.int).getD ((0 : Int32)).toNatClampNeg (.int (0 : Int32)) = .int ((cs.getD 0 0).toInt8.toInt32))) hZ (w_132 hw) (w_131 hw) (by decide) (by decide)) (g := (mkF m 70 #[.val (.ref a1), .val (.ref a2), .val (.int (0 : Int32)), .val (.ref ta), .val (.ref t2), .val (.int (0 : Int32)), .val (.int (1 : Int32)), .val (.int (0 : Int32))] [(.int (1 : Int32)), (.int (0 : Int32)), (.ref t2), (.int (0 : Int32)), (.ref ta)])) rfl (by rw [hml]; rfl) (argsL := [(.ref ta), (.int (0 : Int32)), (.ref t2), (.int (0 : Int32)), (.int (1 : Int32))]) (rest := []) (lenOf pd_3 rfl) rfl (by show 2 * 0 + _ ≤ _; exact Nat.le_of_eq rfl) (hb hby d12_70) (fun _ _ => ⟨rfl, Kq44, (by decide : 0 + 0 ≤ _), (by decide : 0 + 0 ≤ _)⟩)
    dsimp only [Pt.U, Pt.locs, Pt.cells, Pt.slots] at X46 l46 y46 z46 st46 hQ46
    subst l46 y46 z46
    obtain ⟨rfl, Nq46, Kq46⟩ := hQ46
    replace NF := Fr.app NF Nq46
    clear Nq46
    refine WP.st st46 ?_
    clear st46
    replace Kq46 := Kq46.trans (rfl : h0 = h0)
    have hXN : ∃ LL, Stand p l e ({ frames := 2, cells := 0, slots := 0, locals := 27 } : Room) s m #[(.ref a1), (.ref a2), (.int (0 : Int32))] below meth c T46 LL 0 0 ∧ Fr n0 LL := ⟨_, X46, NF⟩
    clear X46 NF
    obtain ⟨LL47, X46, NF⟩ := hXN
    show WP p.tables e below _ T46 (mkF m 73 #[.val (.ref a1), .val (.ref a2), .val (.int (0 : Int32)), .val (.ref ta), .val (.ref t2), .val (.int (0 : Int32)), .val (.int (1 : Int32)), .val (.int (0 : Int32))] [(.int (own_mm ((cs.getD 0 0).toInt8.toInt32)))])
    by_cases hc48 : (own_mm ((cs.getD 0 0).toInt8.toInt32)) < (0 : Int32)
    · skip
      refine WP.st (T' := T46) (f' := (mkF m 81 #[.val (.ref a1), .val (.ref a2), .val (.int (0 : Int32)), .val (.ref ta), .val (.ref t2), .val (.int (0 : Int32)), .val (.int (1 : Int32)), .val (.int (0 : Int32))] [(.int (1 : Int32))])) (fun t k => ?_) ?_
      · refine XS.ifNo X46.here hx rfl (hb hby d12_73) rfl ((if0 _ _).trans (tlt hc48).2.1) ?_
        show Steps p.tables e below (T46.setTop (mkF m 76 #[.val (.ref a1), .val (.ref a2), .val (.int (0 : Int32)), .val (.ref ta), .val (.ref t2), .val (.int (0 : Int32)), .val (.int (1 : Int32)), .val (.int (0 : Int32))] [])) t
        refine XS.iconst X46.here hx rfl (hb hby d12_76) ?_
        show Steps p.tables e below (T46.setTop (mkF m 77 #[.val (.ref a1), .val (.ref a2), .val (.int (0 : Int32)), .val (.ref ta), .val (.ref t2), .val (.int (0 : Int32)), .val (.int (1 : Int32)), .val (.int (0 : Int32))] [(.int (1 : Int32))])) t
        refine XS.goto X46.here hx rfl (pc0 := 77) (pc' := 81) rfl (hb hby d12_77) (by decide) (by decide) ?_
        exact k
      subst hG
      obtain ⟨fs, hr, hrun, hended, hW, hsame⟩ := X46.leave (v := some (.int (1 : Int32))) (fun h => by rw [Bd.returns] at h; cases h)
      refine WP.fin ⟨_, _, ?_, hrun, hended, _, _, rfl, ?_, ⟨_, rfl⟩, hW, hsame.mono (by decide) (by decide)⟩
      · exact retN X46 hx (t := .boolean) Bd.returns (by simp) (hb hby d12_81) hr
      · show Q12 Z a1 a2 ta kb cs t2 kb2 gC h0 n0 _ T46.heap _
        rw [Kq46]
        exact ⟨(by rw [own_isP_t hcs hc48]), NF, rfl⟩
    · skip
      refine WP.st (T' := T46) (f' := (mkF m 81 #[.val (.ref a1), .val (.ref a2), .val (.int (0 : Int32)), .val (.ref ta), .val (.ref t2), .val (.int (0 : Int32)), .val (.int (1 : Int32)), .val (.int (0 : Int32))] [(.int (0 : Int32))])) (fun t k => ?_) ?_
      · refine XS.ifYes X46.here hx rfl (pc0 := 73) (pc' := 80) rfl (hb hby d12_73) rfl ((if0 _ _).trans (flt hc48).2.1) (by decide) (by decide) ?_
        show Steps p.tables e below (T46.setTop (mkF m 80 #[.val (.ref a1), .val (.ref a2), .val (.int (0 : Int32)), .val (.ref ta), .val (.ref t2), .val (.int (0 : Int32)), .val (.int (1 : Int32)), .val (.int (0 : Int32))] [])) t
        refine XS.iconst X46.here hx rfl (hb hby d12_80) ?_
        exact k
      subst hG
      obtain ⟨fs, hr, hrun, hended, hW, hsame⟩ := X46.leave (v := some (.int (0 : Int32))) (fun h => by rw [Bd.returns] at h; cases h)
      refine WP.fin ⟨_, _, ?_, hrun, hended, _, _, rfl, ?_, ⟨_, rfl⟩, hW, hsame.mono (by decide) (by decide)⟩
      · exact retN X46 hx (t := .boolean) Bd.returns (by simp) (hb hby d12_81) hr
      · show Q12 Z a1 a2 ta kb cs t2 kb2 gC h0 n0 _ T46.heap _
        rw [Kq46]
        exact ⟨(by rw [own_isP_f hcs hc48]), NF, rfl⟩
theorem ef_11 (m : MethodId) (z0 : Addr) (z1 : Addr) : entryFrame m #[(.ref z0), (.ref z1)] 2 = mkF m 0 #[.val (.ref z0), .val (.ref z1)] [] := by
  all_goals first | (simp [entryFrame, mkF, argsToLocals, Value.category]; done) | rfl
theorem d11_0 : decode jdk_42_method_76_code 0 = .ok (.aload_n 0, 1) := by decide +kernel
theorem d11_1 : decode jdk_42_method_76_code 1 = .ok (.aload_n 1, 1) := by decide +kernel
theorem d11_2 : decode jdk_42_method_76_code 2 = .ok (.iconst 0, 1) := by decide +kernel
theorem w_69 {a0 : Array Value} {Z : State} (hw : ∀ d ∈ tables_1, d.before a0 Z = true) : (Jvm.Cond.methodLink "java/lang/String" (624 : Nat) ({ cls := "java/lang/String", name := "startsWith", desc := "(Ljava/lang/String;I)Z" } : Jvm.MethodName)).before a0 Z = true := hw _ (List.mem_of_getElem? (i := 69) rfl)
theorem d11_3 : decode jdk_42_method_76_code 3 = .ok (.invokevirtual 624, 3) := by decide +kernel
theorem w_73 {a0 : Array Value} {Z : State} (hw : ∀ d ∈ tables_1, d.before a0 Z = true) : (Jvm.Cond.code ({ cls := "java/lang/String", name := "startsWith", desc := "(Ljava/lang/String;I)Z" } : Jvm.MethodName) jdk_42_method_75_code (8 : Nat) (Option.some Jvm.ClassFile.FieldType.boolean)).before a0 Z = true := hw _ (List.mem_of_getElem? (i := 73) rfl)
theorem pd_4 : parseMethodDescriptor "(Ljava/lang/String;I)Z" = some ⟨[(.object "java/lang/String"), .int], some .boolean⟩ := by decide +kernel
theorem w_72 {a0 : Array Value} {Z : State} (hw : ∀ d ∈ tables_1, d.before a0 Z = true) : (Jvm.Cond.selects "java/lang/String" ({ cls := "java/lang/String", name := "startsWith", desc := "(Ljava/lang/String;I)Z" } : Jvm.MethodName) ({ cls := "java/lang/String", name := "startsWith", desc := "(Ljava/lang/String;I)Z" } : Jvm.MethodName)).before a0 Z = true := hw _ (List.mem_of_getElem? (i := 72) rfl)
theorem w_70 {a0 : Array Value} {Z : State} (hw : ∀ d ∈ tables_1, d.before a0 Z = true) : (Jvm.Cond.declares ({ cls := "java/lang/String", name := "startsWith", desc := "(Ljava/lang/String;I)Z" } : Jvm.MethodName)).before a0 Z = true := hw _ (List.mem_of_getElem? (i := 70) rfl)
theorem w_71 {a0 : Array Value} {Z : State} (hw : ∀ d ∈ tables_1, d.before a0 Z = true) : (Jvm.Cond.instanceMethod ({ cls := "java/lang/String", name := "startsWith", desc := "(Ljava/lang/String;I)Z" } : Jvm.MethodName)).before a0 Z = true := hw _ (List.mem_of_getElem? (i := 71) rfl)
theorem d11_6 : decode jdk_42_method_76_code 6 = .ok (.ireturn, 1) := by decide +kernel
def Q11 (Z : State) (a1 : Addr) (a2 : Addr) (ta : Addr) (kb : ClassId) (cs : List Int32) (t2 : Addr) (kb2 : ClassId) (gC : Int32) (h0 : Heap) (n0 : Nat) (v : Option Value) (h : Heap) (L : List Loc) : Prop := v = some (.int (own_isP cs)) ∧ Fr n0 L ∧ h = h0
set_option maxRecDepth 65536 in
set_option maxHeartbeats 40000000 in
theorem rm11 (l : Launch) (Z : State) (a0 : Array Value) (hw : ∀ d ∈ tables_1, d.before a0 Z = true) (wsC : List Jvm.Cond) (a1 : Addr) (a2 : Addr) (ta : Addr) (kb : ClassId) (cs : List Int32) (t2 : Addr) (kb2 : ClassId) (gC : Int32) (h0 : Heap) (n0 : Nat) (Z0 : n0 ≤ h0.size) (E_a1 : Exa Z h0 a1 "java/lang/String") (F_a1_value : Fld Z h0 a1 "java/lang/String" "value" "[B" (.ref ta)) (F_a1_coder : Fld Z h0 a1 "java/lang/String" "coder" "B" (.int (0 : Int32))) (V_ta : Arv Z h0 ta kb .byte (Int32.ofNat cs.length) ((cs.map (fun c => c.toInt8.toInt32)).map Value.int) (.int (0 : Int32))) (E_a2 : Exa Z h0 a2 "java/lang/String") (F_a2_value : Fld Z h0 a2 "java/lang/String" "value" "[B" (.ref t2)) (F_a2_coder : Fld Z h0 a2 "java/lang/String" "coder" "B" (.int (0 : Int32))) (V_t2 : Arv Z h0 t2 kb2 .byte (1 : Int32) [(.int (37 : Int32))] (.int (0 : Int32))) (hcs : ∀ c ∈ cs, own_byte c) (hcl : cs.length ≤ 2) (OLD : Old Z n0 h0) (O2 : Sta Z Z.heap "java/lang/String" "COMPACT_STRINGS" "Z" (.int gC)) (hz : ¬ gC = (0 : Int32)) :
    MetFree l (⟨"java/lang/String", "startsWith", "(Ljava/lang/String;)Z"⟩ : MethodName) (head1 (Jvm.Cond.code (⟨"java/lang/String", "startsWith", "(Ljava/lang/String;)Z"⟩ : MethodName) jdk_42_method_76_code 2 (some .boolean) :: wsC) ({ frames := 3, cells := 0, slots := 0, locals := 46 } : Room)) (fun a U => a = #[(.ref a1), (.ref a2)] ∧ Z.Warmed39 U.vm ∧ U.heap = h0) (fun _ _ _ _ _ => True) (fun _ U o U' => ∃ v L, o = .returned v ∧ Q11 Z a1 a2 ta kb cs t2 kb2 gC h0 n0 v U'.heap L ∧ FrameEnd U o U' L ({ frames := 3, cells := 0, slots := 0, locals := 46 } : Room).cells ({ frames := 3, cells := 0, slots := 0, locals := 46 } : Room).slots) := by
  refine MetFree.of_bodySF (plainFor_of_name pn_0) hisR ?_
  intro p e s m args below meth c s₁ Bd hml0 hP hK
  obtain ⟨rfl, hZ, hh⟩ := hP
  have hx := Bd.exec
  have hby := Bd.bytes
  have hml : c.maxLocals = 2 := hml0
  have hown : s.vm.findClass "java/lang/String" = some m.cls := findClass_of_methodNamed Bd.named
  have hnm := (name_of_methodNamed Bd.named Bd.method).1
  have X0 : Stand p l e ({ frames := 3, cells := 0, slots := 0, locals := 46 } : Room) s m #[(.ref a1), (.ref a2)] below meth c s₁ [] 0 0 := Stand.of_body Bd
  skip
  have e0 : s₁.heap = h0 := by rw [← hh, Bd.state]; rfl
  have NF := Fr.nil n0
  refine WP.go ?_
  refine WP.cast (ef_11 m a1 a2) ?_
  refine WP.name ?_
  intro G hG
  refine WP.st (T' := s₁) (f' := (mkF m 3 #[.val (.ref a1), .val (.ref a2)] [(.int (0 : Int32)), (.ref a2), (.ref a1)])) (fun t k => ?_) ?_
  · refine XS.aloadN X0.here hx rfl (hb hby d11_0) rfl rfl ?_
    show Steps p.tables e below (s₁.setTop (mkF m 1 #[.val (.ref a1), .val (.ref a2)] [(.ref a1)])) t
    refine XS.aloadN X0.here hx rfl (hb hby d11_1) rfl rfl ?_
    show Steps p.tables e below (s₁.setTop (mkF m 2 #[.val (.ref a1), .val (.ref a2)] [(.ref a2), (.ref a1)])) t
    refine XS.iconst X0.here hx rfl (hb hby d11_2) ?_
    exact k
  obtain ⟨cq49, kq49, q49a, q49b, q49c⟩ := isOf hZ e0 E_a1
  obtain ⟨_, _, ⟨T49, L49, k49, n49⟩, -, X49, ⟨Lc49, hQ49, l49, y49, z49⟩, st49⟩ := X0.virtualBack hx (y := (⟨"java/lang/String", "startsWith", "(Ljava/lang/String;I)Z"⟩ : MethodName)) (z := (⟨"java/lang/String", "startsWith", "(Ljava/lang/String;I)Z"⟩ : MethodName)) hown (mvT hZ (w_69 hw)) (mvT hZ (w_70 hw)) (notFace_of_selects (args := #[]) (mvT hZ (w_72 hw))) (mvT hZ (w_72 hw)) (mvT hZ (w_71 hw)) (by decide) (backOf (W := 0) (rm12 l Z a0 hw [] a1 a2 ta kb cs t2 kb2 gC h0 n0 Z0 E_a1 F_a1_value F_a1_coder V_ta E_a2 F_a2_value F_a2_coder V_t2 (hcs : ∀ c ∈ cs, own_byte c) (hcl : cs.length ≤ 2) OLD (O2 : Sta Z Z.heap "java/lang/String" "COMPACT_STRINGS" "Z" (.int gC)) (hz : ¬ gC = (0 : Int32))) hZ (w_73 hw) (w_6 hw) (by decide) (by decide)) q49a q49c (g := (mkF m 3 #[.val (.ref a1), .val (.ref a2)] [(.int (0 : Int32)), (.ref a2), (.ref a1)])) rfl (by rw [hml]; rfl) (Steps.refl _) (argsL := [(.ref a2), (.int (0 : Int32))]) (rest := []) (lenOf pd_4 rfl) rfl (by show 2 * 0 + _ ≤ _; exact Nat.le_of_eq rfl) (hb hby d11_3) (fun _ _ => ⟨rfl, e0, (by decide : 0 + 0 ≤ _), (by decide : 0 + 0 ≤ _)⟩)
  dsimp only [Pt.U, Pt.locs, Pt.cells, Pt.slots] at X49 l49 y49 z49 st49 hQ49
  subst l49 y49 z49
  obtain ⟨rfl, Nq49, Kq49⟩ := hQ49
  replace NF := Fr.app NF Nq49
  clear Nq49
  refine WP.tr st49 ?_
  clear st49
  replace Kq49 := Kq49.trans (rfl : h0 = h0)
  have hXN : ∃ LL, Stand p l e ({ frames := 3, cells := 0, slots := 0, locals := 46 } : Room) s m #[(.ref a1), (.ref a2)] below meth c T49 LL 0 0 ∧ Fr n0 LL := ⟨_, X49, NF⟩
  clear X49 NF
  obtain ⟨LL50, X49, NF⟩ := hXN
  show WP p.tables e below _ T49 (mkF m 6 #[.val (.ref a1), .val (.ref a2)] [(.int (own_isP cs))])
  subst hG
  obtain ⟨fs, hr, hrun, hended, hW, hsame⟩ := X49.leave (v := some (.int (nar .boolean (own_isP cs)))) (fun h => by rw [Bd.returns] at h; cases h)
  refine WP.fin ⟨_, _, ?_, hrun, hended, _, _, rfl, ?_, ⟨_, rfl⟩, hW, hsame.mono (by decide) (by decide)⟩
  · exact retN X49 hx (t := .boolean) Bd.returns (by simp) (hb hby d11_6) hr
  · show Q11 Z a1 a2 ta kb cs t2 kb2 gC h0 n0 _ T49.heap _
    rw [Kq49]
    exact ⟨(by rw [nar01 (own_isP_01 cs)]), NF, rfl⟩
theorem ef_15 (m : MethodId) (z0 : Addr) : entryFrame m #[(.ref z0)] 1 = mkF m 0 #[.val (.ref z0)] [] := by
  all_goals first | (simp [entryFrame, mkF, argsToLocals, Value.category]; done) | rfl
theorem pn_2 : plainName "com/example/skope/skope/xml/IntakeReplacedUncountedPinLaw" = true := by first | (simp [plainName, overriddenIn]; done) | decide +kernel
theorem d15_0 : decode method_3_code 0 = .ok (.aload_n 0, 1) := by decide +kernel
theorem w_87 {a0 : Array Value} {Z : State} (hw : ∀ d ∈ tables_1, d.before a0 Z = true) : (Jvm.Cond.methodLink "com/example/skope/skope/xml/IntakeReplacedUncountedPinLaw" (16 : Nat) ({ cls := "java/lang/String", name := "length", desc := "()I" } : Jvm.MethodName)).before a0 Z = true := hw _ (List.mem_of_getElem? (i := 87) rfl)
theorem d15_1 : decode method_3_code 1 = .ok (.invokevirtual 16, 3) := by decide +kernel
theorem d15_4 : decode method_3_code 4 = .ok (.ifCond .le 17, 3) := by decide +kernel
theorem d15_7 : decode method_3_code 7 = .ok (.aload_n 0, 1) := by decide +kernel
theorem d15_8 : decode method_3_code 8 = .ok (.iconst 0, 1) := by decide +kernel
theorem w_133 {a0 : Array Value} {Z : State} (hw : ∀ d ∈ tables_1, d.before a0 Z = true) : (Jvm.Cond.methodLink "com/example/skope/skope/xml/IntakeReplacedUncountedPinLaw" (20 : Nat) ({ cls := "java/lang/String", name := "charAt", desc := "(I)C" } : Jvm.MethodName)).before a0 Z = true := hw _ (List.mem_of_getElem? (i := 133) rfl)
theorem d15_9 : decode method_3_code 9 = .ok (.invokevirtual 20, 3) := by decide +kernel
theorem pd_5 : parseMethodDescriptor "(I)C" = some ⟨[.int], some .char⟩ := by decide +kernel
theorem w_136 {a0 : Array Value} {Z : State} (hw : ∀ d ∈ tables_1, d.before a0 Z = true) : (Jvm.Cond.selects "java/lang/String" ({ cls := "java/lang/String", name := "charAt", desc := "(I)C" } : Jvm.MethodName) ({ cls := "java/lang/String", name := "charAt", desc := "(I)C" } : Jvm.MethodName)).before a0 Z = true := hw _ (List.mem_of_getElem? (i := 136) rfl)
theorem w_134 {a0 : Array Value} {Z : State} (hw : ∀ d ∈ tables_1, d.before a0 Z = true) : (Jvm.Cond.declares ({ cls := "java/lang/String", name := "charAt", desc := "(I)C" } : Jvm.MethodName)).before a0 Z = true := hw _ (List.mem_of_getElem? (i := 134) rfl)
theorem w_135 {a0 : Array Value} {Z : State} (hw : ∀ d ∈ tables_1, d.before a0 Z = true) : (Jvm.Cond.instanceMethod ({ cls := "java/lang/String", name := "charAt", desc := "(I)C" } : Jvm.MethodName)).before a0 Z = true := hw _ (List.mem_of_getElem? (i := 135) rfl)
theorem d15_12 : decode method_3_code 12 = .ok (.bipush 37, 2) := by decide +kernel
theorem d15_14 : decode method_3_code 14 = .ok (.if_icmp .ne 7, 3) := by decide +kernel
theorem d15_17 : decode method_3_code 17 = .ok (.iconst 1, 1) := by decide +kernel
theorem d15_18 : decode method_3_code 18 = .ok (.goto 4, 3) := by decide +kernel
theorem d15_22 : decode method_3_code 22 = .ok (.ireturn, 1) := by decide +kernel
theorem d15_21 : decode method_3_code 21 = .ok (.iconst 0, 1) := by decide +kernel
def Q15 (Z : State) (a1 : Addr) (ta : Addr) (kb : ClassId) (cs : List Int32) (gC : Int32) (gF : Value) (h0 : Heap) (n0 : Nat) (v : Option Value) (h : Heap) (L : List Loc) : Prop := v = some (.int (own_isP cs)) ∧ Fr n0 L ∧ h = h0
set_option maxRecDepth 65536 in
set_option maxHeartbeats 40000000 in
theorem rm15 (l : Launch) (Z : State) (a0 : Array Value) (hw : ∀ d ∈ tables_1, d.before a0 Z = true) (wsC : List Jvm.Cond) (a1 : Addr) (ta : Addr) (kb : ClassId) (cs : List Int32) (gC : Int32) (gF : Value) (h0 : Heap) (n0 : Nat) (Z0 : n0 ≤ h0.size) (E_a1 : Exa Z h0 a1 "java/lang/String") (F_a1_value : Fld Z h0 a1 "java/lang/String" "value" "[B" (.ref ta)) (F_a1_coder : Fld Z h0 a1 "java/lang/String" "coder" "B" (.int (0 : Int32))) (V_ta : Arv Z h0 ta kb .byte (Int32.ofNat cs.length) ((cs.map (fun c => c.toInt8.toInt32)).map Value.int) (.int (0 : Int32))) (hcs : ∀ c ∈ cs, own_byte c) (hcl : cs.length ≤ 2) (OLD : Old Z n0 h0) (O2 : Sta Z Z.heap "java/lang/String" "COMPACT_STRINGS" "Z" (.int gC)) (hz : ¬ gC = (0 : Int32)) (O4 : Sta Z Z.heap "jdk/internal/util/Preconditions" "SIOOBE_FORMATTER" "Ljava/util/function/BiFunction;" gF) (rf : gF.isRef = true) :
    MetFree l (⟨"com/example/skope/skope/xml/IntakeReplacedUncountedPinLaw", "isParam", "(Ljava/lang/String;)Z"⟩ : MethodName) (head1 (Jvm.Cond.code (⟨"com/example/skope/skope/xml/IntakeReplacedUncountedPinLaw", "isParam", "(Ljava/lang/String;)Z"⟩ : MethodName) method_3_code 1 (some .boolean) :: wsC) ({ frames := 4, cells := 0, slots := 0, locals := 53 } : Room)) (fun a U => a = #[(.ref a1)] ∧ Z.Warmed39 U.vm ∧ U.heap = h0) (fun _ _ _ _ _ => True) (fun _ U o U' => ∃ v L, o = .returned v ∧ Q15 Z a1 ta kb cs gC gF h0 n0 v U'.heap L ∧ FrameEnd U o U' L ({ frames := 4, cells := 0, slots := 0, locals := 53 } : Room).cells ({ frames := 4, cells := 0, slots := 0, locals := 53 } : Room).slots) := by
  refine MetFree.of_bodySF (plainFor_of_name pn_2) hisR ?_
  intro p e s m args below meth c s₁ Bd hml0 hP hK
  obtain ⟨rfl, hZ, hh⟩ := hP
  have hx := Bd.exec
  have hby := Bd.bytes
  have hml : c.maxLocals = 1 := hml0
  have hown : s.vm.findClass "com/example/skope/skope/xml/IntakeReplacedUncountedPinLaw" = some m.cls := findClass_of_methodNamed Bd.named
  have hnm := (name_of_methodNamed Bd.named Bd.method).1
  have X0 : Stand p l e ({ frames := 4, cells := 0, slots := 0, locals := 53 } : Room) s m #[(.ref a1)] below meth c s₁ [] 0 0 := Stand.of_body Bd
  skip
  have e0 : s₁.heap = h0 := by rw [← hh, Bd.state]; rfl
  have NF := Fr.nil n0
  refine WP.go ?_
  refine WP.cast (ef_15 m a1) ?_
  refine WP.name ?_
  intro G hG
  refine WP.st (T' := s₁) (f' := (mkF m 1 #[.val (.ref a1)] [(.ref a1)])) (fun t k => ?_) ?_
  · refine XS.aloadN X0.here hx rfl (hb hby d15_0) rfl rfl ?_
    exact k
  obtain ⟨cq51, kq51, q51a, q51b, q51c⟩ := isOf hZ e0 E_a1
  obtain ⟨_, _, ⟨T51, L51, k51, n51⟩, -, X51, ⟨Lc51, hQ51, l51, y51, z51⟩, st51⟩ := X0.virtualBack hx (y := (⟨"java/lang/String", "length", "()I"⟩ : MethodName)) (z := (⟨"java/lang/String", "length", "()I"⟩ : MethodName)) hown (mvT hZ (w_87 hw)) (mvT hZ (w_75 hw)) (notFace_of_selects (args := #[]) (mvT hZ (w_77 hw))) (mvT hZ (w_77 hw)) (mvT hZ (w_76 hw)) (by decide) (backOf (W := 0) (rm13 l Z a0 hw [] a1 ta kb (Int32.ofNat cs.length) ((cs.map (fun c => c.toInt8.toInt32)).map Value.int) (.int (0 : Int32)) gC h0 n0 Z0 E_a1 F_a1_value F_a1_coder V_ta OLD (O2 : Sta Z Z.heap "java/lang/String" "COMPACT_STRINGS" "Z" (.int gC)) (hz : ¬ gC = (0 : Int32))) hZ (w_78 hw) (w_6 hw) (by decide) (by decide)) q51a q51c (g := (mkF m 1 #[.val (.ref a1)] [(.ref a1)])) rfl (by rw [hml]; rfl) (Steps.refl _) (argsL := []) (rest := []) (lenOf pd_2 rfl) rfl (by show 2 * 0 + _ ≤ _; exact Nat.le_of_eq rfl) (hb hby d15_1) (fun _ _ => ⟨rfl, e0, (by decide : 0 + 0 ≤ _), (by decide : 0 + 0 ≤ _)⟩)
  dsimp only [Pt.U, Pt.locs, Pt.cells, Pt.slots] at X51 l51 y51 z51 st51 hQ51
  subst l51 y51 z51
  obtain ⟨rfl, Nq51, Kq51⟩ := hQ51
  replace NF := Fr.app NF Nq51
  clear Nq51
  refine WP.tr st51 ?_
  clear st51
  replace Kq51 := Kq51.trans (rfl : h0 = h0)
  have hXN : ∃ LL, Stand p l e ({ frames := 4, cells := 0, slots := 0, locals := 53 } : Room) s m #[(.ref a1)] below meth c T51 LL 0 0 ∧ Fr n0 LL := ⟨_, X51, NF⟩
  clear X51 NF
  obtain ⟨LL52, X51, NF⟩ := hXN
  show WP p.tables e below _ T51 (mkF m 4 #[.val (.ref a1)] [(.int (Int32.ofNat cs.length))])
  by_cases hc53 : (0 : Int32) < (Int32.ofNat cs.length)
  · skip
    refine WP.st (T' := T51) (f' := (mkF m 9 #[.val (.ref a1)] [(.int (0 : Int32)), (.ref a1)])) (fun t k => ?_) ?_
    · refine XS.ifNo X51.here hx rfl (hb hby d15_4) rfl ((if0 _ _).trans (tlt hc53).2.2.2) ?_
      show Steps p.tables e below (T51.setTop (mkF m 7 #[.val (.ref a1)] [])) t
      refine XS.aloadN X51.here hx rfl (hb hby d15_7) rfl rfl ?_
      show Steps p.tables e below (T51.setTop (mkF m 8 #[.val (.ref a1)] [(.ref a1)])) t
      refine XS.iconst X51.here hx rfl (hb hby d15_8) ?_
      exact k
    have hcd : StrChars.Road.CodA cs 0 (Int32.ofNat cs.length) ((cs.map (fun c => c.toInt8.toInt32)).map Value.int) := StrChars.Road.codOf rfl (fun x hx => (own_hp hcs x hx).2)
    obtain ⟨cq54, kq54, q54a, q54b, q54c⟩ := isOf hZ Kq51 E_a1
    obtain ⟨_, _, ⟨T54, L54, k54, n54⟩, -, X54, ⟨Lc54, hQ54, l54, y54, z54⟩, st54⟩ := X51.virtualBack hx (y := (⟨"java/lang/String", "charAt", "(I)C"⟩ : MethodName)) (z := (⟨"java/lang/String", "charAt", "(I)C"⟩ : MethodName)) hown (mvT hZ (w_133 hw)) (mvT hZ (w_134 hw)) (notFace_of_selects (args := #[]) (mvT hZ (w_136 hw))) (mvT hZ (w_136 hw)) (mvT hZ (w_135 hw)) (by decide) (StrChars.Road.chN (W := 0) hZ (own_wsChN hw) (kI := 4) (w_5 hw) E_a1 F_a1_value F_a1_coder V_ta hcd (own_up _ (own_hp hcs)) (O2.ext OLD.2) hz (O4.ext OLD.2) rf (Nat.le_trans hcl (by decide)) (i := 0) (own_len0 hc53) (j := (0 : Int32)) rfl (by decide) (by decide)) q54a q54c (g := (mkF m 9 #[.val (.ref a1)] [(.int (0 : Int32)), (.ref a1)])) rfl (by rw [hml]; rfl) (Steps.refl _) (argsL := [(.int (0 : Int32))]) (rest := []) (lenOf pd_5 rfl) rfl (by show 2 * 0 + _ ≤ _; exact Nat.le_of_eq rfl) (hb hby d15_9) (fun _ _ => ⟨rfl, Kq51, (by decide : 0 + 0 ≤ _), (by decide : 0 + 0 ≤ _)⟩)
    dsimp only [Pt.U, Pt.locs, Pt.cells, Pt.slots] at X54 l54 y54 z54 st54 hQ54
    subst l54 y54 z54
    obtain ⟨rfl, rfl, e54⟩ := hQ54
    refine WP.tr st54 ?_
    clear st54
    replace NF := Fr.app NF (Fr.nil n0)
    show WP p.tables e below _ T54 (mkF m 12 #[.val (.ref a1)] [(.int (cs.getD 0 0))])
    refine WP.st (T' := T54) (f' := (mkF m 14 #[.val (.ref a1)] [(.int (37 : Int32)), (.int (cs.getD 0 0))])) (fun t k => ?_) ?_
    · refine XS.bipush X54.here hx rfl (hb hby d15_12) ?_
      exact k
    by_cases hc55 : (cs.getD 0 0) = (37 : Int32)
    · skip
      refine WP.st (T' := T54) (f' := (mkF m 22 #[.val (.ref a1)] [(.int (1 : Int32))])) (fun t k => ?_) ?_
      · refine XS.icmpNo X54.here hx rfl (hb hby d15_14) rfl (teq hc55).2 ?_
        show Steps p.tables e below (T54.setTop (mkF m 17 #[.val (.ref a1)] [])) t
        refine XS.iconst X54.here hx rfl (hb hby d15_17) ?_
        show Steps p.tables e below (T54.setTop (mkF m 18 #[.val (.ref a1)] [(.int (1 : Int32))])) t
        refine XS.goto X54.here hx rfl (pc0 := 18) (pc' := 22) rfl (hb hby d15_18) (by decide) (by decide) ?_
        exact k
      subst hG
      obtain ⟨fs, hr, hrun, hended, hW, hsame⟩ := X54.leave (v := some (.int (1 : Int32))) (fun h => by rw [Bd.returns] at h; cases h)
      refine WP.fin ⟨_, _, ?_, hrun, hended, _, _, rfl, ?_, ⟨_, rfl⟩, hW, hsame.mono (by decide) (by decide)⟩
      · exact retN X54 hx (t := .boolean) Bd.returns (by simp) (hb hby d15_22) hr
      · show Q15 Z a1 ta kb cs gC gF h0 n0 _ T54.heap _
        rw [e54]
        exact ⟨(by rw [show own_isP cs = _ from if_pos hc55]), NF, rfl⟩
    · skip
      refine WP.st (T' := T54) (f' := (mkF m 22 #[.val (.ref a1)] [(.int (0 : Int32))])) (fun t k => ?_) ?_
      · refine XS.icmpYes X54.here hx rfl (pc0 := 14) (pc' := 21) rfl (hb hby d15_14) rfl (feq hc55).2 (by decide) (by decide) ?_
        show Steps p.tables e below (T54.setTop (mkF m 21 #[.val (.ref a1)] [])) t
        refine XS.iconst X54.here hx rfl (hb hby d15_21) ?_
        exact k
      subst hG
      obtain ⟨fs, hr, hrun, hended, hW, hsame⟩ := X54.leave (v := some (.int (0 : Int32))) (fun h => by rw [Bd.returns] at h; cases h)
      refine WP.fin ⟨_, _, ?_, hrun, hended, _, _, rfl, ?_, ⟨_, rfl⟩, hW, hsame.mono (by decide) (by decide)⟩
      · exact retN X54 hx (t := .boolean) Bd.returns (by simp) (hb hby d15_22) hr
      · show Q15 Z a1 ta kb cs gC gF h0 n0 _ T54.heap _
        rw [e54]
        exact ⟨(by rw [show own_isP cs = _ from if_neg hc55]), NF, rfl⟩
  · skip
    refine WP.st (T' := T51) (f' := (mkF m 22 #[.val (.ref a1)] [(.int (0 : Int32))])) (fun t k => ?_) ?_
    · refine XS.ifYes X51.here hx rfl (pc0 := 4) (pc' := 21) rfl (hb hby d15_4) rfl ((if0 _ _).trans (flt hc53).2.2.2) (by decide) (by decide) ?_
      show Steps p.tables e below (T51.setTop (mkF m 21 #[.val (.ref a1)] [])) t
      refine XS.iconst X51.here hx rfl (hb hby d15_21) ?_
      exact k
    subst hG
    obtain ⟨fs, hr, hrun, hended, hW, hsame⟩ := X51.leave (v := some (.int (0 : Int32))) (fun h => by rw [Bd.returns] at h; cases h)
    refine WP.fin ⟨_, _, ?_, hrun, hended, _, _, rfl, ?_, ⟨_, rfl⟩, hW, hsame.mono (by decide) (by decide)⟩
    · exact retN X51 hx (t := .boolean) Bd.returns (by simp) (hb hby d15_22) hr
    · show Q15 Z a1 ta kb cs gC gF h0 n0 _ T51.heap _
      rw [Kq51]
      exact ⟨(by rw [own_short2 hcl hc53]), NF, rfl⟩
theorem ef_19 (m : MethodId) (z0 : Int32) : entryFrame m #[(.int z0)] 1 = mkF m 0 #[.val (.int z0)] [] := by
  all_goals first | (simp [entryFrame, mkF, argsToLocals, Value.category]; done) | rfl
theorem pn_3 : plainName "java/lang/StringLatin1" = true := by first | (simp [plainName, overriddenIn]; done) | decide +kernel
theorem d19_0 : decode jdk_43_method_3_code 0 = .ok (.iload_n 0, 1) := by decide +kernel
theorem d19_1 : decode jdk_43_method_3_code 1 = .ok (.sipush 255, 3) := by decide +kernel
theorem d19_4 : decode jdk_43_method_3_code 4 = .ok (.if_icmp .gt 7, 3) := by decide +kernel
theorem d19_7 : decode jdk_43_method_3_code 7 = .ok (.iconst 1, 1) := by decide +kernel
theorem d19_8 : decode jdk_43_method_3_code 8 = .ok (.goto 4, 3) := by decide +kernel
theorem d19_12 : decode jdk_43_method_3_code 12 = .ok (.ireturn, 1) := by decide +kernel
def Q19 (Z : State) (p1 : Int32) (h0 : Heap) (n0 : Nat) (v : Option Value) (h : Heap) (L : List Loc) : Prop := v = some (.int (1 : Int32)) ∧ Fr n0 L ∧ h = h0
set_option maxRecDepth 65536 in
set_option maxHeartbeats 40000000 in
theorem rm19 (l : Launch) (Z : State) (a0 : Array Value) (hw : ∀ d ∈ tables_1, d.before a0 Z = true) (wsC : List Jvm.Cond) (p1 : Int32) (h0 : Heap) (n0 : Nat) (Z0 : n0 ≤ h0.size) (hq : ¬ ((255 : Int32) < p1)) :
    MetFree l (⟨"java/lang/StringLatin1", "canEncode", "(C)Z"⟩ : MethodName) (head1 (Jvm.Cond.code (⟨"java/lang/StringLatin1", "canEncode", "(C)Z"⟩ : MethodName) jdk_43_method_3_code 1 (some .boolean) :: wsC) ({ frames := 0, cells := 0, slots := 0, locals := 0 } : Room)) (fun a U => a = #[(.int p1)] ∧ Z.Warmed39 U.vm ∧ U.heap = h0) (fun _ _ _ _ _ => True) (fun _ U o U' => ∃ v L, o = .returned v ∧ Q19 Z p1 h0 n0 v U'.heap L ∧ FrameEnd U o U' L ({ frames := 0, cells := 0, slots := 0, locals := 0 } : Room).cells ({ frames := 0, cells := 0, slots := 0, locals := 0 } : Room).slots) := by
  refine MetFree.of_bodySF (plainFor_of_name pn_3) hisR ?_
  intro p e s m args below meth c s₁ Bd hml0 hP hK
  obtain ⟨rfl, hZ, hh⟩ := hP
  have hx := Bd.exec
  have hby := Bd.bytes
  have hml : c.maxLocals = 1 := hml0
  have hown : s.vm.findClass "java/lang/StringLatin1" = some m.cls := findClass_of_methodNamed Bd.named
  have hnm := (name_of_methodNamed Bd.named Bd.method).1
  have X0 : Stand p l e ({ frames := 0, cells := 0, slots := 0, locals := 0 } : Room) s m #[(.int p1)] below meth c s₁ [] 0 0 := Stand.of_body Bd
  skip
  have e0 : s₁.heap = h0 := by rw [← hh, Bd.state]; rfl
  have NF := Fr.nil n0
  refine WP.go ?_
  refine WP.cast (ef_19 m p1) ?_
  refine WP.name ?_
  intro G hG
  refine WP.st (T' := s₁) (f' := (mkF m 12 #[.val (.int p1)] [(.int (1 : Int32))])) (fun t k => ?_) ?_
  · refine XS.iloadN X0.here hx rfl (hb hby d19_0) rfl ?_
    show Steps p.tables e below (s₁.setTop (mkF m 1 #[.val (.int p1)] [(.int p1)])) t
    refine XS.sipush X0.here hx rfl (hb hby d19_1) ?_
    show Steps p.tables e below (s₁.setTop (mkF m 4 #[.val (.int p1)] [(.int (255 : Int32)), (.int p1)])) t
    refine XS.icmpNo X0.here hx rfl (hb hby d19_4) rfl (flt hq).2.2.1 ?_
    show Steps p.tables e below (s₁.setTop (mkF m 7 #[.val (.int p1)] [])) t
    refine XS.iconst X0.here hx rfl (hb hby d19_7) ?_
    show Steps p.tables e below (s₁.setTop (mkF m 8 #[.val (.int p1)] [(.int (1 : Int32))])) t
    refine XS.goto X0.here hx rfl (pc0 := 8) (pc' := 12) rfl (hb hby d19_8) (by decide) (by decide) ?_
    exact k
  subst hG
  obtain ⟨fs, hr, hrun, hended, hW, hsame⟩ := X0.leave (v := some (.int (1 : Int32))) (fun h => by rw [Bd.returns] at h; cases h)
  refine WP.fin ⟨_, _, ?_, hrun, hended, _, _, rfl, ?_, ⟨_, rfl⟩, hW, hsame.mono (by decide) (by decide)⟩
  · exact retN X0 hx (t := .boolean) Bd.returns (by simp) (hb hby d19_12) hr
  · show Q19 Z p1 h0 n0 _ s₁.heap _
    rw [e0]
    exact ⟨rfl, NF, rfl⟩
theorem ef_20 (m : MethodId) (z0 : Int32) : entryFrame m #[(.int z0)] 1 = mkF m 0 #[.val (.int z0)] [] := by
  all_goals first | (simp [entryFrame, mkF, argsToLocals, Value.category]; done) | rfl
theorem d20_0 : decode jdk_43_method_46_code 0 = .ok (.iconst 1, 1) := by decide +kernel
theorem w_19 {a0 : Array Value} {Z : State} (hw : ∀ d ∈ tables_1, d.before a0 Z = true) : (Jvm.Cond.arrayClass Jvm.ClassFile.FieldType.byte).before a0 Z = true := hw _ (List.mem_of_getElem? (i := 19) rfl)
theorem d20_1 : decode jdk_43_method_46_code 1 = .ok (.newarray .byte, 2) := by decide +kernel
theorem d20_3 : decode jdk_43_method_46_code 3 = .ok (.dup, 1) := by decide +kernel
theorem d20_4 : decode jdk_43_method_46_code 4 = .ok (.iconst 0, 1) := by decide +kernel
theorem d20_5 : decode jdk_43_method_46_code 5 = .ok (.iload_n 0, 1) := by decide +kernel
theorem d20_6 : decode jdk_43_method_46_code 6 = .ok (.i2b, 1) := by decide +kernel
theorem d20_7 : decode jdk_43_method_46_code 7 = .ok (.bastore, 1) := by decide +kernel
theorem d20_8 : decode jdk_43_method_46_code 8 = .ok (.areturn, 1) := by decide +kernel
def Q20 (Z : State) (p1 : Int32) (h0 : Heap) (n0 : Nat) (v : Option Value) (h : Heap) (L : List Loc) : Prop := ∃ r : Addr, ∃ kr : ClassId, v = some (.ref r) ∧ Fr n0 L ∧ Keep h0 h [] ∧ h0.size ≤ r ∧ n0 ≤ r ∧ (Arv Z h r kr .byte (1 : Int32) [(.int (nar .byte (p1.toInt8.toInt32)))] (.int (0 : Int32)))
set_option maxRecDepth 65536 in
set_option maxHeartbeats 40000000 in
theorem rm20 (l : Launch) (Z : State) (a0 : Array Value) (hw : ∀ d ∈ tables_1, d.before a0 Z = true) (wsC : List Jvm.Cond) (p1 : Int32) (h0 : Heap) (n0 : Nat) (Z0 : n0 ≤ h0.size) (OLD : Old Z n0 h0) :
    MetFree l (⟨"java/lang/StringLatin1", "toBytes", "(C)[B"⟩ : MethodName) (head1 (Jvm.Cond.code (⟨"java/lang/StringLatin1", "toBytes", "(C)[B"⟩ : MethodName) jdk_43_method_46_code 1 (some (.array .byte)) :: wsC) ({ frames := 0, cells := 1, slots := 1, locals := 0 } : Room)) (fun a U => a = #[(.int p1)] ∧ Z.Warmed39 U.vm ∧ U.heap = h0) (fun _ _ _ _ _ => True) (fun _ U o U' => ∃ v L, o = .returned v ∧ Q20 Z p1 h0 n0 v U'.heap L ∧ FrameEnd U o U' L ({ frames := 0, cells := 1, slots := 1, locals := 0 } : Room).cells ({ frames := 0, cells := 1, slots := 1, locals := 0 } : Room).slots) := by
  refine MetFree.of_bodySF (plainFor_of_name pn_3) hisR ?_
  intro p e s m args below meth c s₁ Bd hml0 hP hK
  obtain ⟨rfl, hZ, hh⟩ := hP
  have hx := Bd.exec
  have hby := Bd.bytes
  have hml : c.maxLocals = 1 := hml0
  have hown : s.vm.findClass "java/lang/StringLatin1" = some m.cls := findClass_of_methodNamed Bd.named
  have hnm := (name_of_methodNamed Bd.named Bd.method).1
  have X0 : Stand p l e ({ frames := 0, cells := 1, slots := 1, locals := 0 } : Room) s m #[(.int p1)] below meth c s₁ [] 0 0 := Stand.of_body Bd
  skip
  have e0 : s₁.heap = h0 := by rw [← hh, Bd.state]; rfl
  have NF := Fr.nil n0
  have KP : Keep h0 h0 [] := Keep.refl h0 _
  refine WP.go ?_
  refine WP.cast (ef_20 m p1) ?_
  refine WP.name ?_
  intro G hG
  refine WP.st (T' := s₁) (f' := (mkF m 1 #[.val (.int p1)] [(.int (1 : Int32))])) (fun t k => ?_) ?_
  · refine XS.iconst X0.here hx rfl (hb hby d20_0) ?_
    exact k
  obtain ⟨T56, h56, k56, X56, e56, E56, A56, st56⟩ := newP (aty := .byte) X0 hx hZ (w_19 hw) e0 (g := (mkF m 1 #[.val (.int p1)] [(.int (1 : Int32))])) rfl (hb hby d20_1) rfl (by decide) (cap := 1) (by decide) (by decide) (by decide) (by decide)
  obtain ⟨b56, g56⟩ : ∃ z, z = h0.size := ⟨_, rfl⟩
  rw [← g56] at A56 st56
  refine WP.st st56 ?_
  clear st56
  have g_b56 : n0 ≤ b56 := Nat.le_trans Z0 (Nat.le_of_eq g56.symm)
  have sz_b56 : h0.size ≤ b56 := Nat.le_trans KP.1 (Nat.le_of_eq g56.symm)
  replace OLD := OLD.ext E56
  replace Z0 := Nat.le_trans Z0 E56.1
  replace KP := KP.ext E56
  have V_b56 : Arv Z h56 b56 k56 .byte (1 : Int32) [(.int (0 : Int32))] (.int (0 : Int32)) := (Arv.new A56 (by decide)).pad (pad_rep [] (.int (0 : Int32)) 1)
  show WP p.tables e below _ T56 (mkF m 3 #[.val (.int p1)] [(.ref b56)])
  refine WP.st (T' := T56) (f' := (mkF m 7 #[.val (.int p1)] [(.int (p1.toInt8.toInt32)), (.int (0 : Int32)), (.ref b56), (.ref b56)])) (fun t k => ?_) ?_
  · refine XS.dup X56.here hx rfl (hb hby d20_3) rfl rfl ?_
    show Steps p.tables e below (T56.setTop (mkF m 4 #[.val (.int p1)] [(.ref b56), (.ref b56)])) t
    refine XS.iconst X56.here hx rfl (hb hby d20_4) ?_
    show Steps p.tables e below (T56.setTop (mkF m 5 #[.val (.int p1)] [(.int (0 : Int32)), (.ref b56), (.ref b56)])) t
    refine XS.iloadN X56.here hx rfl (hb hby d20_5) rfl ?_
    show Steps p.tables e below (T56.setTop (mkF m 6 #[.val (.int p1)] [(.int p1), (.int (0 : Int32)), (.ref b56), (.ref b56)])) t
    refine XS.i2b X56.here hx rfl (hb hby d20_6) rfl ?_
    exact k
  obtain ⟨cl57, Ar57, q57, S57, N57, H57, G57⟩ := V_b56
  have hin57 : ¬ ((0 : Int32) < 0 ∨ cl57.slots.size ≤ ((0 : Int32)).toNatClampNeg) := inb_of S57 ⟨by decide, by decide⟩
  obtain ⟨T58, h58, X58, e58, W58, st58⟩ := stB X56 hx hZ e56 Ar57 (j := (0 : Int32)) hin57 (g := (mkF m 7 #[.val (.int p1)] [(.int (p1.toInt8.toInt32)), (.int (0 : Int32)), (.ref b56), (.ref b56)])) rfl rfl (hb hby d20_7)
  refine WP.st st58 ?_
  clear st58
  have Vn : Arv Z h58 b56 k56 .byte (1 : Int32) [(.int (nar .byte (p1.toInt8.toInt32)))] (.int (0 : Int32)) := Arv.set Ar57 q57 S57 N57 H57 G57 (fits_nar_byte _) W58 0 rfl (Nat.le_of_ble_eq_true rfl)
  replace OLD := OLD.wr W58 g_b56
  replace Z0 := Nat.le_trans Z0 (Keep.of_wr W58).1
  replace KP := KP.wr W58 (Or.inr sz_b56)
  replace V_b56 := Vn
  replace NF := Fr.snoc X58 NF g_b56
  clear W58 hin57 q57 S57 N57 H57 G57 Ar57
  have hXN : ∃ LL, Stand p l e ({ frames := 0, cells := 1, slots := 1, locals := 0 } : Room) s m #[(.int p1)] below meth c T58 LL 1 1 ∧ Fr n0 LL := ⟨_, X58, NF⟩
  clear X58 NF
  obtain ⟨LL59, X58, NF⟩ := hXN
  show WP p.tables e below _ T58 (mkF m 8 #[.val (.int p1)] [(.ref b56)])
  subst hG
  obtain ⟨fs, hr, hrun, hended, hW, hsame⟩ := X58.leave (v := some (.ref b56)) (fun h => by rw [Bd.returns] at h; cases h)
  refine WP.fin ⟨_, _, ?_, hrun, hended, _, _, rfl, ?_, ⟨_, rfl⟩, hW, hsame.mono (by decide) (by decide)⟩
  · exact retOut X58 hx Bd.returns rfl (Or.inr (Or.inr (Or.inr (Or.inr ⟨rfl, rfl, rfl⟩)))) (hb hby d20_8) hr
  · show Q20 Z p1 h0 n0 _ T58.heap _
    rw [e58]
    exact ⟨b56, k56, rfl, NF, KP, sz_b56, g_b56, V_b56⟩
theorem ef_21 (m : MethodId) (z0 : Addr) (z1 : Addr) : entryFrame m #[(.ref z0), (.ref z1), (.int (0 : Int32))] 3 = mkF m 0 #[.val (.ref z0), .val (.ref z1), .val (.int (0 : Int32))] [] := by
  all_goals first | (simp [entryFrame, mkF, argsToLocals, Value.category]; done) | rfl
theorem d21_0 : decode jdk_42_method_151_code 0 = .ok (.aload_n 0, 1) := by decide +kernel
theorem d21_1 : decode jdk_42_method_151_code 1 = .ok (.invokespecial 1, 3) := by decide +kernel
theorem d21_4 : decode jdk_42_method_151_code 4 = .ok (.aload_n 0, 1) := by decide +kernel
theorem d21_5 : decode jdk_42_method_151_code 5 = .ok (.aload_n 1, 1) := by decide +kernel
theorem d21_6 : decode jdk_42_method_151_code 6 = .ok (.putfield 9, 3) := by decide +kernel
theorem d21_9 : decode jdk_42_method_151_code 9 = .ok (.aload_n 0, 1) := by decide +kernel
theorem d21_10 : decode jdk_42_method_151_code 10 = .ok (.iload_n 2, 1) := by decide +kernel
theorem d21_11 : decode jdk_42_method_151_code 11 = .ok (.putfield 15, 3) := by decide +kernel
theorem d21_14 : decode jdk_42_method_151_code 14 = .ok (.return_, 1) := by decide +kernel
def Q21 (Z : State) (a1 : Addr) (ta : Addr) (h0 : Heap) (n0 : Nat) (v : Option Value) (h : Heap) (L : List Loc) : Prop := v = none ∧ Fr n0 L ∧ Keep h0 h [a1] ∧ Exa Z h a1 "java/lang/String" ∧ Fld Z h a1 "java/lang/String" "value" "[B" (.ref ta) ∧ Fld Z h a1 "java/lang/String" "coder" "B" (.int (0 : Int32))
set_option maxRecDepth 65536 in
set_option maxHeartbeats 40000000 in
theorem rm21 (l : Launch) (Z : State) (a0 : Array Value) (hw : ∀ d ∈ tables_1, d.before a0 Z = true) (wsC : List Jvm.Cond) (a1 : Addr) (ta : Addr) (h0 : Heap) (n0 : Nat) (Z0 : n0 ≤ h0.size) (E_a1 : Exa Z h0 a1 "java/lang/String") (g_a1 : n0 ≤ a1) (F_a1_value : Fld Z h0 a1 "java/lang/String" "value" "[B" .null) (F_a1_coder : Fld Z h0 a1 "java/lang/String" "coder" "B" (.int (0 : Int32))) :
    MetFree l (⟨"java/lang/String", "<init>", "([BB)V"⟩ : MethodName) (head1 (Jvm.Cond.code (⟨"java/lang/String", "<init>", "([BB)V"⟩ : MethodName) jdk_42_method_151_code 3 none :: wsC) ({ frames := 1, cells := 0, slots := 0, locals := 12 } : Room)) (fun a U => a = #[(.ref a1), (.ref ta), (.int (0 : Int32))] ∧ Z.Warmed39 U.vm ∧ U.heap = h0) (fun _ _ _ _ _ => True) (fun _ U o U' => ∃ v L, o = .returned v ∧ Q21 Z a1 ta h0 n0 v U'.heap L ∧ FrameEnd U o U' L ({ frames := 1, cells := 0, slots := 0, locals := 12 } : Room).cells ({ frames := 1, cells := 0, slots := 0, locals := 12 } : Room).slots) := by
  refine MetFree.of_bodySF (plainFor_of_name pn_0) hisR ?_
  intro p e s m args below meth c s₁ Bd hml0 hP hK
  obtain ⟨rfl, hZ, hh⟩ := hP
  have hx := Bd.exec
  have hby := Bd.bytes
  have hml : c.maxLocals = 3 := hml0
  have hown : s.vm.findClass "java/lang/String" = some m.cls := findClass_of_methodNamed Bd.named
  have hnm := (name_of_methodNamed Bd.named Bd.method).1
  have X0 : Stand p l e ({ frames := 1, cells := 0, slots := 0, locals := 12 } : Room) s m #[(.ref a1), (.ref ta), (.int (0 : Int32))] below meth c s₁ [] 0 0 := Stand.of_body Bd
  skip
  have e0 : s₁.heap = h0 := by rw [← hh, Bd.state]; rfl
  have NF := Fr.nil n0
  have KP : Keep h0 h0 [a1] := Keep.refl h0 _
  refine WP.go ?_
  refine WP.cast (ef_21 m a1 ta) ?_
  refine WP.name ?_
  intro G hG
  refine WP.st (T' := s₁) (f' := (mkF m 1 #[.val (.ref a1), .val (.ref ta), .val (.int (0 : Int32))] [(.ref a1)])) (fun t k => ?_) ?_
  · refine XS.aloadN X0.here hx rfl (hb hby d21_0) rfl rfl ?_
    exact k
  obtain ⟨T60, X60, e60, st60⟩ := initO X0 hx hZ hown (w_15 hw) (w_16 hw) (w_17 hw) e0 (g := (mkF m 1 #[.val (.ref a1), .val (.ref ta), .val (.int (0 : Int32))] [(.ref a1)])) rfl (by rw [hml]; rfl) rfl (hb hby d21_1) (by decide) (W := 0) (by show 2 * 0 + _ ≤ _; exact Nat.le_of_eq rfl) (by decide)
  refine WP.st st60 ?_
  clear st60
  show WP p.tables e below _ T60 (mkF m 4 #[.val (.ref a1), .val (.ref ta), .val (.int (0 : Int32))] [])
  refine WP.st (T' := T60) (f' := (mkF m 6 #[.val (.ref a1), .val (.ref ta), .val (.int (0 : Int32))] [(.ref ta), (.ref a1)])) (fun t k => ?_) ?_
  · refine XS.aloadN X60.here hx rfl (hb hby d21_4) rfl rfl ?_
    show Steps p.tables e below (T60.setTop (mkF m 5 #[.val (.ref a1), .val (.ref ta), .val (.int (0 : Int32))] [(.ref a1)])) t
    refine XS.aloadN X60.here hx rfl (hb hby d21_5) rfl rfl ?_
    exact k
  obtain ⟨T61, h61, X61, e61, W61, st61⟩ := putF X60 hx hZ hown (host := "") (Or.inl (w_24 hw)) Via.refl e60 F_a1_value E_a1 (Or.inr ⟨(w_20 hw), rfl, hnm⟩) (w_5 hw) (ty := (.array .byte)) (by decide) rfl rfl (g := (mkF m 6 #[.val (.ref a1), .val (.ref ta), .val (.int (0 : Int32))] [(.ref ta), (.ref a1)])) rfl rfl (hb hby d21_6)
  refine WP.st st61 ?_
  clear st61
  replace E_a1 := E_a1.wr W61
  replace F_a1_value := F_a1_value.same W61
  replace F_a1_coder := F_a1_coder.other W61 (Or.inr (sn_0 hw))
  replace Z0 := Nat.le_trans Z0 (Keep.of_wr W61).1
  replace KP := KP.wr W61 (Or.inl (List.mem_of_getElem? (i := 0) rfl))
  replace NF := Fr.snoc X61 NF g_a1
  clear W61
  have hXN : ∃ LL, Stand p l e ({ frames := 1, cells := 0, slots := 0, locals := 12 } : Room) s m #[(.ref a1), (.ref ta), (.int (0 : Int32))] below meth c T61 LL 0 0 ∧ Fr n0 LL := ⟨_, X61, NF⟩
  clear X61 NF
  obtain ⟨LL62, X61, NF⟩ := hXN
  show WP p.tables e below _ T61 (mkF m 9 #[.val (.ref a1), .val (.ref ta), .val (.int (0 : Int32))] [])
  refine WP.st (T' := T61) (f' := (mkF m 11 #[.val (.ref a1), .val (.ref ta), .val (.int (0 : Int32))] [(.int (0 : Int32)), (.ref a1)])) (fun t k => ?_) ?_
  · refine XS.aloadN X61.here hx rfl (hb hby d21_9) rfl rfl ?_
    show Steps p.tables e below (T61.setTop (mkF m 10 #[.val (.ref a1), .val (.ref ta), .val (.int (0 : Int32))] [(.ref a1)])) t
    refine XS.iloadN X61.here hx rfl (hb hby d21_10) rfl ?_
    exact k
  obtain ⟨T63, h63, X63, e63, W63, st63⟩ := putFN X61 hx hZ hown (w_25 hw) Via.refl e61 F_a1_coder E_a1 (Or.inr ⟨(w_21 hw), rfl, hnm⟩) (w_5 hw) (ty := .byte) (v := (.int (0 : Int32))) (v' := (.int (0 : Int32))) (by decide) rfl (by decide) (g := (mkF m 11 #[.val (.ref a1), .val (.ref ta), .val (.int (0 : Int32))] [(.int (0 : Int32)), (.ref a1)])) rfl rfl (hb hby d21_11)
  refine WP.st st63 ?_
  clear st63
  replace E_a1 := E_a1.wr W63
  replace F_a1_value := F_a1_value.other W63 (Or.inr (sn_1 hw))
  replace F_a1_coder := F_a1_coder.same W63
  replace Z0 := Nat.le_trans Z0 (Keep.of_wr W63).1
  replace KP := KP.wr W63 (Or.inl (List.mem_of_getElem? (i := 0) rfl))
  replace NF := Fr.snoc X63 NF g_a1
  clear W63
  have hXN : ∃ LL, Stand p l e ({ frames := 1, cells := 0, slots := 0, locals := 12 } : Room) s m #[(.ref a1), (.ref ta), (.int (0 : Int32))] below meth c T63 LL 0 0 ∧ Fr n0 LL := ⟨_, X63, NF⟩
  clear X63 NF
  obtain ⟨LL64, X63, NF⟩ := hXN
  show WP p.tables e below _ T63 (mkF m 14 #[.val (.ref a1), .val (.ref ta), .val (.int (0 : Int32))] [])
  subst hG
  obtain ⟨fs, hr, hrun, hended, hW, hsame⟩ := X63.leave (v := none) (fun _ => rfl)
  refine WP.fin ⟨_, _, ?_, hrun, hended, _, _, rfl, ?_, ⟨_, rfl⟩, hW, hsame.mono (by decide) (by decide)⟩
  · exact X63.returnOut hx Bd.returns (hb hby d21_14) hr
  · show Q21 Z a1 ta h0 n0 _ T63.heap _
    rw [e63]
    exact ⟨rfl, NF, KP, E_a1, F_a1_value, F_a1_coder⟩
theorem ef_18 (m : MethodId) (z0 : Int32) : entryFrame m #[(.int z0)] 1 = mkF m 0 #[.val (.int z0)] [] := by
  all_goals first | (simp [entryFrame, mkF, argsToLocals, Value.category]; done) | rfl
theorem d18_0 : decode jdk_42_method_139_code 0 = .ok (.getstatic 38, 3) := by decide +kernel
theorem d18_3 : decode jdk_42_method_139_code 3 = .ok (.ifCond .eq 23, 3) := by decide +kernel
theorem d18_6 : decode jdk_42_method_139_code 6 = .ok (.iload_n 0, 1) := by decide +kernel
theorem w_113 {a0 : Array Value} {Z : State} (hw : ∀ d ∈ tables_1, d.before a0 Z = true) : (Jvm.Cond.methodLink "java/lang/String" (1015 : Nat) ({ cls := "java/lang/StringLatin1", name := "canEncode", desc := "(C)Z" } : Jvm.MethodName)).before a0 Z = true := hw _ (List.mem_of_getElem? (i := 113) rfl)
theorem d18_7 : decode jdk_42_method_139_code 7 = .ok (.invokestatic 1015, 3) := by decide +kernel
theorem w_116 {a0 : Array Value} {Z : State} (hw : ∀ d ∈ tables_1, d.before a0 Z = true) : (Jvm.Cond.code ({ cls := "java/lang/StringLatin1", name := "canEncode", desc := "(C)Z" } : Jvm.MethodName) jdk_43_method_3_code (1 : Nat) (Option.some Jvm.ClassFile.FieldType.boolean)).before a0 Z = true := hw _ (List.mem_of_getElem? (i := 116) rfl)
theorem w_115 {a0 : Array Value} {Z : State} (hw : ∀ d ∈ tables_1, d.before a0 Z = true) : (Jvm.Cond.initialized "java/lang/StringLatin1").before a0 Z = true := hw _ (List.mem_of_getElem? (i := 115) rfl)
theorem pd_6 : parseMethodDescriptor "(C)Z" = some ⟨[.char], some .boolean⟩ := by decide +kernel
theorem w_114 {a0 : Array Value} {Z : State} (hw : ∀ d ∈ tables_1, d.before a0 Z = true) : (Jvm.Cond.static ({ cls := "java/lang/StringLatin1", name := "canEncode", desc := "(C)Z" } : Jvm.MethodName)).before a0 Z = true := hw _ (List.mem_of_getElem? (i := 114) rfl)
theorem d18_10 : decode jdk_42_method_139_code 10 = .ok (.ifCond .eq 16, 3) := by decide +kernel
theorem w_117 {a0 : Array Value} {Z : State} (hw : ∀ d ∈ tables_1, d.before a0 Z = true) : (Jvm.Cond.classLink "java/lang/String" (10 : Nat) "java/lang/String").before a0 Z = true := hw _ (List.mem_of_getElem? (i := 117) rfl)
theorem d18_13 : decode jdk_42_method_139_code 13 = .ok (.new 10, 3) := by decide +kernel
theorem d18_16 : decode jdk_42_method_139_code 16 = .ok (.dup, 1) := by decide +kernel
theorem d18_17 : decode jdk_42_method_139_code 17 = .ok (.iload_n 0, 1) := by decide +kernel
theorem w_118 {a0 : Array Value} {Z : State} (hw : ∀ d ∈ tables_1, d.before a0 Z = true) : (Jvm.Cond.methodLink "java/lang/String" (1018 : Nat) ({ cls := "java/lang/StringLatin1", name := "toBytes", desc := "(C)[B" } : Jvm.MethodName)).before a0 Z = true := hw _ (List.mem_of_getElem? (i := 118) rfl)
theorem d18_18 : decode jdk_42_method_139_code 18 = .ok (.invokestatic 1018, 3) := by decide +kernel
theorem w_120 {a0 : Array Value} {Z : State} (hw : ∀ d ∈ tables_1, d.before a0 Z = true) : (Jvm.Cond.code ({ cls := "java/lang/StringLatin1", name := "toBytes", desc := "(C)[B" } : Jvm.MethodName) jdk_43_method_46_code (1 : Nat) (Option.some (Jvm.ClassFile.FieldType.array Jvm.ClassFile.FieldType.byte))).before a0 Z = true := hw _ (List.mem_of_getElem? (i := 120) rfl)
theorem pd_7 : parseMethodDescriptor "(C)[B" = some ⟨[.char], some (.array .byte)⟩ := by decide +kernel
theorem w_119 {a0 : Array Value} {Z : State} (hw : ∀ d ∈ tables_1, d.before a0 Z = true) : (Jvm.Cond.static ({ cls := "java/lang/StringLatin1", name := "toBytes", desc := "(C)[B" } : Jvm.MethodName)).before a0 Z = true := hw _ (List.mem_of_getElem? (i := 119) rfl)
theorem d18_21 : decode jdk_42_method_139_code 21 = .ok (.iconst 0, 1) := by decide +kernel
theorem w_121 {a0 : Array Value} {Z : State} (hw : ∀ d ∈ tables_1, d.before a0 Z = true) : (Jvm.Cond.methodLink "java/lang/String" (209 : Nat) ({ cls := "java/lang/String", name := "<init>", desc := "([BB)V" } : Jvm.MethodName)).before a0 Z = true := hw _ (List.mem_of_getElem? (i := 121) rfl)
theorem d18_22 : decode jdk_42_method_139_code 22 = .ok (.invokespecial 209, 3) := by decide +kernel
theorem w_123 {a0 : Array Value} {Z : State} (hw : ∀ d ∈ tables_1, d.before a0 Z = true) : (Jvm.Cond.code ({ cls := "java/lang/String", name := "<init>", desc := "([BB)V" } : Jvm.MethodName) jdk_42_method_151_code (3 : Nat) (Option.none : Option Jvm.ClassFile.FieldType)).before a0 Z = true := hw _ (List.mem_of_getElem? (i := 123) rfl)
theorem pd_8 : parseMethodDescriptor "([BB)V" = some ⟨[(.array .byte), .byte], none⟩ := by decide +kernel
theorem w_122 {a0 : Array Value} {Z : State} (hw : ∀ d ∈ tables_1, d.before a0 Z = true) : (Jvm.Cond.instanceMethod ({ cls := "java/lang/String", name := "<init>", desc := "([BB)V" } : Jvm.MethodName)).before a0 Z = true := hw _ (List.mem_of_getElem? (i := 122) rfl)
theorem d18_25 : decode jdk_42_method_139_code 25 = .ok (.areturn, 1) := by decide +kernel
def Q18 (Z : State) (p1 : Int32) (gC : Int32) (h0 : Heap) (n0 : Nat) (v : Option Value) (h : Heap) (L : List Loc) : Prop := ∃ r : Addr, ∃ ta : Addr, ∃ kb : ClassId, v = some (.ref r) ∧ Fr n0 L ∧ Keep h0 h [] ∧ h0.size ≤ r ∧ Exa Z h r "java/lang/String" ∧ Fld Z h r "java/lang/String" "coder" "B" (.int (0 : Int32)) ∧ Fld Z h r "java/lang/String" "value" "[B" (.ref ta) ∧ (Arv Z h ta kb .byte (Int32.ofNat [p1].length) (([p1].map (fun c => c.toInt8.toInt32)).map Value.int) (.int (0 : Int32)))
set_option maxRecDepth 65536 in
set_option maxHeartbeats 40000000 in
theorem rm18 (l : Launch) (Z : State) (a0 : Array Value) (hw : ∀ d ∈ tables_1, d.before a0 Z = true) (wsC : List Jvm.Cond) (p1 : Int32) (gC : Int32) (h0 : Heap) (n0 : Nat) (Z0 : n0 ≤ h0.size) (OLD : Old Z n0 h0) (O2 : Sta Z Z.heap "java/lang/String" "COMPACT_STRINGS" "Z" (.int gC)) (hz : ¬ gC = (0 : Int32)) (hbv : own_byte p1) :
    MetFree l (⟨"java/lang/String", "valueOf", "(C)Ljava/lang/String;"⟩ : MethodName) (head1 (Jvm.Cond.code (⟨"java/lang/String", "valueOf", "(C)Ljava/lang/String;"⟩ : MethodName) jdk_42_method_139_code 1 (some (.object "java/lang/String")) :: wsC) ({ frames := 2, cells := 2, slots := 5, locals := 27 } : Room)) (fun a U => a = #[(.int p1)] ∧ Z.Warmed39 U.vm ∧ U.heap = h0) (fun _ _ _ _ _ => True) (fun _ U o U' => ∃ v L, o = .returned v ∧ Q18 Z p1 gC h0 n0 v U'.heap L ∧ FrameEnd U o U' L ({ frames := 2, cells := 2, slots := 5, locals := 27 } : Room).cells ({ frames := 2, cells := 2, slots := 5, locals := 27 } : Room).slots) := by
  refine MetFree.of_bodySF (plainFor_of_name pn_0) hisR ?_
  intro p e s m args below meth c s₁ Bd hml0 hP hK
  obtain ⟨rfl, hZ, hh⟩ := hP
  have hx := Bd.exec
  have hby := Bd.bytes
  have hml : c.maxLocals = 1 := hml0
  have hown : s.vm.findClass "java/lang/String" = some m.cls := findClass_of_methodNamed Bd.named
  have hnm := (name_of_methodNamed Bd.named Bd.method).1
  have X0 : Stand p l e ({ frames := 2, cells := 2, slots := 5, locals := 27 } : Room) s m #[(.int p1)] below meth c s₁ [] 0 0 := Stand.of_body Bd
  skip
  have e0 : s₁.heap = h0 := by rw [← hh, Bd.state]; rfl
  have NF := Fr.nil n0
  have KP : Keep h0 h0 [] := Keep.refl h0 _
  refine WP.go ?_
  refine WP.cast (ef_18 m p1) ?_
  refine WP.name ?_
  intro G hG
  have U_java_lang_String_COMPACT_STRINGS := O2.ext OLD.2
  obtain ⟨T65, X65, e65, st65⟩ := getS2 X0 hx hZ hown (host := "") (Or.inl (w_26 hw)) Via.refl e0 U_java_lang_String_COMPACT_STRINGS (g := (mkF m 0 #[.val (.int p1)] [])) rfl (hb hby d18_0)
  refine WP.st st65 ?_
  clear st65
  show WP p.tables e below _ T65 (mkF m 3 #[.val (.int p1)] [(.int gC)])
  refine WP.st (T' := T65) (f' := (mkF m 7 #[.val (.int p1)] [(.int p1)])) (fun t k => ?_) ?_
  · refine XS.ifNo X65.here hx rfl (hb hby d18_3) rfl ((if0 _ _).trans (feq hz).1) ?_
    show Steps p.tables e below (T65.setTop (mkF m 6 #[.val (.int p1)] [])) t
    refine XS.iloadN X65.here hx rfl (hb hby d18_6) rfl ?_
    exact k
  obtain ⟨_, _, ⟨T66, L66, k66, n66⟩, -, X66, ⟨Lc66, hQ66, l66, y66, z66⟩, st66⟩ := Jvm.LawKit.callS X65 hx (y := (⟨"java/lang/StringLatin1", "canEncode", "(C)Z"⟩ : MethodName)) hown (mvT hZ (w_113 hw)) (mvT hZ (w_114 hw)) (mvT hZ (w_115 hw)) (mvT hZ (w_116 hw)) (by decide) (backOf (W := 0) (rm19 l Z a0 hw [] p1 h0 n0 Z0 hbv.2.1) hZ (w_116 hw) (w_115 hw) (by decide) (by decide)) (g := (mkF m 7 #[.val (.int p1)] [(.int p1)])) rfl (by rw [hml]; rfl) (argsL := [(.int p1)]) (rest := []) (lenOf pd_6 rfl) rfl (by show 2 * 0 + _ ≤ _; exact Nat.le_of_eq rfl) (hb hby d18_7) (fun _ _ => ⟨rfl, e65, (by decide : 0 + 0 ≤ _), (by decide : 0 + 0 ≤ _)⟩)
  dsimp only [Pt.U, Pt.locs, Pt.cells, Pt.slots] at X66 l66 y66 z66 st66 hQ66
  subst l66 y66 z66
  obtain ⟨rfl, Nq66, Kq66⟩ := hQ66
  replace NF := Fr.app NF Nq66
  clear Nq66
  refine WP.st st66 ?_
  clear st66
  replace Kq66 := Kq66.trans (rfl : h0 = h0)
  have hXN : ∃ LL, Stand p l e ({ frames := 2, cells := 2, slots := 5, locals := 27 } : Room) s m #[(.int p1)] below meth c T66 LL 0 0 ∧ Fr n0 LL := ⟨_, X66, NF⟩
  clear X66 NF
  obtain ⟨LL67, X66, NF⟩ := hXN
  show WP p.tables e below _ T66 (mkF m 10 #[.val (.int p1)] [(.int (1 : Int32))])
  refine WP.st (T' := T66) (f' := (mkF m 13 #[.val (.int p1)] [])) (fun t k => ?_) ?_
  · refine XS.ifNo X66.here hx rfl (hb hby d18_10) rfl ((if0 _ _).trans (feq (by decide : ¬ ((1 : Int32) = (0 : Int32)))).1) ?_
    exact k
  obtain ⟨T68, h68, X68, e68, E68, A68, D68, -, st68⟩ := newO X66 hx hZ hown (w_117 hw) (w_5 hw) (w_6 hw) Kq66 (g := (mkF m 13 #[.val (.int p1)] [])) rfl (hb hby d18_13) (by decide) (by decide)
  obtain ⟨b68, g68⟩ : ∃ z, z = h0.size := ⟨_, rfl⟩
  rw [← g68] at A68 D68 st68
  refine WP.st st68 ?_
  clear st68
  have g_b68 : n0 ≤ b68 := Nat.le_trans Z0 (Nat.le_of_eq g68.symm)
  have sz_b68 : h0.size ≤ b68 := Nat.le_trans KP.1 (Nat.le_of_eq g68.symm)
  replace OLD := OLD.ext E68
  replace U_java_lang_String_COMPACT_STRINGS := U_java_lang_String_COMPACT_STRINGS.ext E68
  replace Z0 := Nat.le_trans Z0 E68.1
  replace KP := KP.ext E68
  have E_b68 := A68
  have F_b68_value : Fld Z h68 b68 "java/lang/String" "value" "[B" .null := D68 (Or.inr (w_20 hw)) (ty := (.array .byte)) (by decide)
  have F_b68_coder : Fld Z h68 b68 "java/lang/String" "coder" "B" (.int (0 : Int32)) := D68 (Or.inr (w_21 hw)) (ty := .byte) (by decide)
  clear D68 A68
  show WP p.tables e below _ T68 (mkF m 16 #[.val (.int p1)] [(.ref b68)])
  refine WP.st (T' := T68) (f' := (mkF m 18 #[.val (.int p1)] [(.int p1), (.ref b68), (.ref b68)])) (fun t k => ?_) ?_
  · refine XS.dup X68.here hx rfl (hb hby d18_16) rfl rfl ?_
    show Steps p.tables e below (T68.setTop (mkF m 17 #[.val (.int p1)] [(.ref b68), (.ref b68)])) t
    refine XS.iloadN X68.here hx rfl (hb hby d18_17) rfl ?_
    exact k
  obtain ⟨_, _, ⟨T69, L69, k69, n69⟩, -, X69, ⟨Lc69, hQ69, l69, y69, z69⟩, st69⟩ := Jvm.LawKit.callS X68 hx (y := (⟨"java/lang/StringLatin1", "toBytes", "(C)[B"⟩ : MethodName)) hown (mvT hZ (w_118 hw)) (mvT hZ (w_119 hw)) (mvT hZ (w_115 hw)) (mvT hZ (w_120 hw)) (by decide) (backOf (W := 2) (rm20 l Z a0 hw [] p1 h68 n0 Z0 OLD) hZ (w_120 hw) (w_115 hw) (by decide) (by decide)) (g := (mkF m 18 #[.val (.int p1)] [(.int p1), (.ref b68), (.ref b68)])) rfl (by rw [hml]; rfl) (argsL := [(.int p1)]) (rest := [(.ref b68), (.ref b68)]) (lenOf pd_7 rfl) rfl (by show 2 * 0 + _ ≤ _; exact Nat.le_of_eq rfl) (hb hby d18_18) (fun _ _ => ⟨rfl, e68, (by decide : 1 + 1 ≤ _), (by decide : 4 + 1 ≤ _)⟩)
  dsimp only [Pt.U, Pt.locs, Pt.cells, Pt.slots] at X69 l69 y69 z69 st69 hQ69
  subst l69 y69 z69
  obtain ⟨r_69, kr_69, rfl, Nq69, Kq69, szq_r_69, g_r_69, nA69_r_69⟩ := hQ69
  replace NF := Fr.app NF Nq69
  clear Nq69
  refine WP.st st69 ?_
  clear st69
  obtain ⟨h69, e69⟩ : ∃ h, T69.heap = h := ⟨_, rfl⟩
  rw [e69] at Kq69 nA69_r_69
  have ne_b68_r_69 : b68 ≠ r_69 := Nat.ne_of_lt (Nat.lt_of_lt_of_le E_b68.lt szq_r_69)
  have sz_r_69 : h0.size ≤ r_69 := Nat.le_trans KP.1 szq_r_69
  replace OLD := OLD.keep Kq69 all0
  clear U_java_lang_String_COMPACT_STRINGS
  replace E_b68 := E_b68.keep Kq69
  replace F_b68_value := F_b68_value.keep Kq69 (by exact nin0)
  replace F_b68_coder := F_b68_coder.keep Kq69 (by exact nin0)
  replace Z0 := Nat.le_trans Z0 Kq69.1
  replace KP := KP.trans Kq69 all0
  clear Kq69
  have V_r_69 := nA69_r_69
  clear nA69_r_69
  have hXN : ∃ LL, Stand p l e ({ frames := 2, cells := 2, slots := 5, locals := 27 } : Room) s m #[(.int p1)] below meth c T69 LL 2 5 ∧ Fr n0 LL := ⟨_, X69, NF⟩
  clear X69 NF
  obtain ⟨LL70, X69, NF⟩ := hXN
  show WP p.tables e below _ T69 (mkF m 21 #[.val (.int p1)] [(.ref r_69), (.ref b68), (.ref b68)])
  refine WP.st (T' := T69) (f' := (mkF m 22 #[.val (.int p1)] [(.int (0 : Int32)), (.ref r_69), (.ref b68), (.ref b68)])) (fun t k => ?_) ?_
  · refine XS.iconst X69.here hx rfl (hb hby d18_21) ?_
    exact k
  obtain ⟨_, _, ⟨T71, L71, k71, n71⟩, -, X71, ⟨Lc71, hQ71, l71, y71, z71⟩, st71⟩ := X69.specialBack hx (y := (⟨"java/lang/String", "<init>", "([BB)V"⟩ : MethodName)) rfl hown (mvT hZ (w_121 hw)) (mvT hZ (w_122 hw)) (mvT hZ (w_123 hw)) (by decide) (backOf (W := 1) (rm21 l Z a0 hw [] b68 r_69 h69 n0 Z0 E_b68 g_b68 F_b68_value F_b68_coder) hZ (w_123 hw) (w_6 hw) (by decide) (by decide)) (g := (mkF m 22 #[.val (.int p1)] [(.int (0 : Int32)), (.ref r_69), (.ref b68), (.ref b68)])) rfl (by rw [hml]; rfl) (Steps.refl _) (a := b68) (argsL := [(.ref r_69), (.int (0 : Int32))]) (rest := [(.ref b68)]) (lenOf pd_8 rfl) rfl (by show 2 * 0 + _ ≤ _; exact Nat.le_of_eq rfl) (hb hby d18_22) (fun _ _ => ⟨rfl, e69, (by decide : 2 + 0 ≤ _), (by decide : 5 + 0 ≤ _)⟩)
  dsimp only [Pt.U, Pt.locs, Pt.cells, Pt.slots] at X71 l71 y71 z71 st71 hQ71
  subst l71 y71 z71
  obtain ⟨rfl, Nq71, Kq71, nE71_b68, nF71_b68_value, nF71_b68_coder⟩ := hQ71
  replace NF := Fr.app NF Nq71
  clear Nq71
  refine WP.tr st71 ?_
  clear st71
  obtain ⟨h71, e71⟩ : ∃ h, T71.heap = h := ⟨_, rfl⟩
  rw [e71] at Kq71 nE71_b68 nF71_b68_value nF71_b68_coder
  replace OLD := OLD.keep Kq71 (allS g_b68 all0)
  replace E_b68 := E_b68.keep Kq71
  clear F_b68_value
  clear F_b68_coder
  replace V_r_69 := V_r_69.keep Kq71 (by exact ninS (Ne.symm ne_b68_r_69) (nin0))
  replace Z0 := Nat.le_trans Z0 Kq71.1
  replace KP := KP.trans Kq71 (allS (Or.inr sz_b68) all0)
  clear Kq71
  clear E_b68
  have E_b68 := nE71_b68
  clear nE71_b68
  have F_b68_value := nF71_b68_value
  clear nF71_b68_value
  have F_b68_coder := nF71_b68_coder
  clear nF71_b68_coder
  have hXN : ∃ LL, Stand p l e ({ frames := 2, cells := 2, slots := 5, locals := 27 } : Room) s m #[(.int p1)] below meth c T71 LL 2 5 ∧ Fr n0 LL := ⟨_, X71, NF⟩
  clear X71 NF
  obtain ⟨LL72, X71, NF⟩ := hXN
  show WP p.tables e below _ T71 (mkF m 25 #[.val (.int p1)] [(.ref b68)])
  subst hG
  obtain ⟨fs, hr, hrun, hended, hW, hsame⟩ := X71.leave (v := some (.ref b68)) (fun h => by rw [Bd.returns] at h; cases h)
  refine WP.fin ⟨_, _, ?_, hrun, hended, _, _, rfl, ?_, ⟨_, rfl⟩, hW, hsame.mono (by decide) (by decide)⟩
  · exact retOut X71 hx Bd.returns rfl (Or.inr (Or.inr (Or.inr (Or.inr ⟨rfl, rfl, rfl⟩)))) (hb hby d18_25) hr
  · show Q18 Z p1 gC h0 n0 _ T71.heap _
    rw [e71]
    exact ⟨b68, r_69, kr_69, rfl, NF, KP, sz_b68, E_b68, F_b68_coder, F_b68_value, (by have q := V_r_69; rw [own_i8 hbv] at q; exact q)⟩
theorem ef_1 (m : MethodId) (z0 : Int32) : entryFrame m #[(.int z0)] 4 = mkF m 0 #[.val (.int z0), .unset, .unset, .unset] [] := by
  all_goals first | (simp [entryFrame, mkF, argsToLocals, Value.category]; done) | rfl
theorem d1_0 : decode method_2_code 0 = .ok (.iload_n 0, 1) := by decide +kernel
theorem d1_1 : decode method_2_code 1 = .ok (.iconst 3, 1) := by decide +kernel
theorem d1_2 : decode method_2_code 2 = .ok (.iand, 1) := by decide +kernel
theorem d1_3 : decode method_2_code 3 = .ok (.iconst 3, 1) := by decide +kernel
theorem d1_4 : decode method_2_code 4 = .ok (.irem, 1) := by decide +kernel
theorem d1_5 : decode method_2_code 5 = .ok (.istore_n 1, 1) := by decide +kernel
theorem d1_25 : decode method_2_code 25 = .ok (.istore_n 2, 1) := by decide +kernel
theorem d1_26 : decode method_2_code 26 = .ok (.iload_n 0, 1) := by decide +kernel
theorem d1_27 : decode method_2_code 27 = .ok (.bipush 11, 2) := by decide +kernel
theorem d1_29 : decode method_2_code 29 = .ok (.iushr, 1) := by decide +kernel
theorem d1_30 : decode method_2_code 30 = .ok (.sipush 255, 3) := by decide +kernel
theorem d1_33 : decode method_2_code 33 = .ok (.iand, 1) := by decide +kernel
theorem d1_34 : decode method_2_code 34 = .ok (.i2c, 1) := by decide +kernel
theorem d1_35 : decode method_2_code 35 = .ok (.istore_n 3, 1) := by decide +kernel
theorem d1_36 : decode method_2_code 36 = .ok (.iload_n 1, 1) := by decide +kernel
theorem d1_37 : decode method_2_code 37 = .ok (.ifCond .ne 14, 3) := by decide +kernel
theorem w_4 {a0 : Array Value} {Z : State} (hw : ∀ d ∈ tables_1, d.before a0 Z = true) : (Jvm.Cond.classLink "com/example/skope/skope/xml/IntakeReplacedUncountedPinLaw" (7 : Nat) "java/lang/String").before a0 Z = true := hw _ (List.mem_of_getElem? (i := 4) rfl)
theorem d1_40 : decode method_2_code 40 = .ok (.new 7, 3) := by decide +kernel
theorem d1_43 : decode method_2_code 43 = .ok (.dup, 1) := by decide +kernel
theorem d1_44 : decode method_2_code 44 = .ok (.iconst 0, 1) := by decide +kernel
theorem w_7 {a0 : Array Value} {Z : State} (hw : ∀ d ∈ tables_1, d.before a0 Z = true) : (Jvm.Cond.arrayClass Jvm.ClassFile.FieldType.char).before a0 Z = true := hw _ (List.mem_of_getElem? (i := 7) rfl)
theorem d1_45 : decode method_2_code 45 = .ok (.newarray .char, 2) := by decide +kernel
theorem w_8 {a0 : Array Value} {Z : State} (hw : ∀ d ∈ tables_1, d.before a0 Z = true) : (Jvm.Cond.methodLink "com/example/skope/skope/xml/IntakeReplacedUncountedPinLaw" (9 : Nat) ({ cls := "java/lang/String", name := "<init>", desc := "([C)V" } : Jvm.MethodName)).before a0 Z = true := hw _ (List.mem_of_getElem? (i := 8) rfl)
theorem d1_47 : decode method_2_code 47 = .ok (.invokespecial 9, 3) := by decide +kernel
theorem w_10 {a0 : Array Value} {Z : State} (hw : ∀ d ∈ tables_1, d.before a0 Z = true) : (Jvm.Cond.code ({ cls := "java/lang/String", name := "<init>", desc := "([C)V" } : Jvm.MethodName) jdk_42_method_3_code (2 : Nat) (Option.none : Option Jvm.ClassFile.FieldType)).before a0 Z = true := hw _ (List.mem_of_getElem? (i := 10) rfl)
theorem pd_9 : parseMethodDescriptor "([C)V" = some ⟨[(.array .char)], none⟩ := by decide +kernel
theorem w_9 {a0 : Array Value} {Z : State} (hw : ∀ d ∈ tables_1, d.before a0 Z = true) : (Jvm.Cond.instanceMethod ({ cls := "java/lang/String", name := "<init>", desc := "([C)V" } : Jvm.MethodName)).before a0 Z = true := hw _ (List.mem_of_getElem? (i := 9) rfl)
theorem d1_50 : decode method_2_code 50 = .ok (.areturn, 1) := by decide +kernel
theorem d1_51 : decode method_2_code 51 = .ok (.iload_n 1, 1) := by decide +kernel
theorem d1_52 : decode method_2_code 52 = .ok (.iconst 1, 1) := by decide +kernel
theorem d1_53 : decode method_2_code 53 = .ok (.if_icmp .ne 8, 3) := by decide +kernel
theorem d1_56 : decode method_2_code 56 = .ok (.iload_n 2, 1) := by decide +kernel
theorem w_110 {a0 : Array Value} {Z : State} (hw : ∀ d ∈ tables_1, d.before a0 Z = true) : (Jvm.Cond.methodLink "com/example/skope/skope/xml/IntakeReplacedUncountedPinLaw" (12 : Nat) ({ cls := "java/lang/String", name := "valueOf", desc := "(C)Ljava/lang/String;" } : Jvm.MethodName)).before a0 Z = true := hw _ (List.mem_of_getElem? (i := 110) rfl)
theorem d1_57 : decode method_2_code 57 = .ok (.invokestatic 12, 3) := by decide +kernel
theorem w_112 {a0 : Array Value} {Z : State} (hw : ∀ d ∈ tables_1, d.before a0 Z = true) : (Jvm.Cond.code ({ cls := "java/lang/String", name := "valueOf", desc := "(C)Ljava/lang/String;" } : Jvm.MethodName) jdk_42_method_139_code (1 : Nat) (Option.some (Jvm.ClassFile.FieldType.object "java/lang/String"))).before a0 Z = true := hw _ (List.mem_of_getElem? (i := 112) rfl)
theorem pd_10 : parseMethodDescriptor "(C)Ljava/lang/String;" = some ⟨[.char], some (.object "java/lang/String")⟩ := by decide +kernel
theorem w_111 {a0 : Array Value} {Z : State} (hw : ∀ d ∈ tables_1, d.before a0 Z = true) : (Jvm.Cond.static ({ cls := "java/lang/String", name := "valueOf", desc := "(C)Ljava/lang/String;" } : Jvm.MethodName)).before a0 Z = true := hw _ (List.mem_of_getElem? (i := 111) rfl)
theorem d1_60 : decode method_2_code 60 = .ok (.areturn, 1) := by decide +kernel
theorem d1_61 : decode method_2_code 61 = .ok (.new 7, 3) := by decide +kernel
theorem d1_64 : decode method_2_code 64 = .ok (.dup, 1) := by decide +kernel
theorem d1_65 : decode method_2_code 65 = .ok (.iconst 2, 1) := by decide +kernel
theorem d1_66 : decode method_2_code 66 = .ok (.newarray .char, 2) := by decide +kernel
theorem d1_68 : decode method_2_code 68 = .ok (.dup, 1) := by decide +kernel
theorem d1_69 : decode method_2_code 69 = .ok (.iconst 0, 1) := by decide +kernel
theorem d1_70 : decode method_2_code 70 = .ok (.iload_n 2, 1) := by decide +kernel
theorem d1_71 : decode method_2_code 71 = .ok (.castore, 1) := by decide +kernel
theorem d1_72 : decode method_2_code 72 = .ok (.dup, 1) := by decide +kernel
theorem d1_73 : decode method_2_code 73 = .ok (.iconst 1, 1) := by decide +kernel
theorem d1_74 : decode method_2_code 74 = .ok (.iload_n 3, 1) := by decide +kernel
theorem d1_75 : decode method_2_code 75 = .ok (.castore, 1) := by decide +kernel
theorem d1_76 : decode method_2_code 76 = .ok (.invokespecial 9, 3) := by decide +kernel
theorem d1_79 : decode method_2_code 79 = .ok (.areturn, 1) := by decide +kernel
theorem d1_6 : decode method_2_code 6 = .ok (.iload_n 0, 1) := by decide +kernel
theorem d1_7 : decode method_2_code 7 = .ok (.iconst 4, 1) := by decide +kernel
theorem d1_8 : decode method_2_code 8 = .ok (.iand, 1) := by decide +kernel
theorem d1_9 : decode method_2_code 9 = .ok (.ifCond .eq 8, 3) := by decide +kernel
theorem d1_17 : decode method_2_code 17 = .ok (.iload_n 0, 1) := by decide +kernel
theorem d1_18 : decode method_2_code 18 = .ok (.iconst 3, 1) := by decide +kernel
theorem d1_19 : decode method_2_code 19 = .ok (.iushr, 1) := by decide +kernel
theorem d1_20 : decode method_2_code 20 = .ok (.sipush 255, 3) := by decide +kernel
theorem d1_23 : decode method_2_code 23 = .ok (.iand, 1) := by decide +kernel
theorem d1_24 : decode method_2_code 24 = .ok (.i2c, 1) := by decide +kernel
theorem d1_12 : decode method_2_code 12 = .ok (.bipush 37, 2) := by decide +kernel
theorem d1_14 : decode method_2_code 14 = .ok (.goto 11, 3) := by decide +kernel
def Q1 (Z : State) (p1 : Int32) (gC : Int32) (h0 : Heap) (n0 : Nat) (v : Option Value) (h : Heap) (L : List Loc) (ve : Vm) : Prop := ∃ r : Addr, ∃ ta : Addr, ∃ kb : ClassId, ∃ cs : List Int32, v = some (.ref r) ∧ Fr n0 L ∧ Keep h0 h [] ∧ h0.size ≤ r ∧ Exa Z h r "java/lang/String" ∧ Fld Z h r "java/lang/String" "coder" "B" (.int (0 : Int32)) ∧ Fld Z h r "java/lang/String" "value" "[B" (.ref ta) ∧ (Arv Z h ta kb .byte (Int32.ofNat cs.length) ((cs.map (fun c => c.toInt8.toInt32)).map Value.int) (.int (0 : Int32))) ∧ (∀ c ∈ cs, own_byte c) ∧ (cs.length ≤ 2) ∧ own_EOK Z h ve
set_option maxRecDepth 65536 in
set_option maxHeartbeats 40000000 in
theorem rm1 (l : Launch) (Z : State) (a0 : Array Value) (hw : ∀ d ∈ tables_1, d.before a0 Z = true) (wsC : List Jvm.Cond) (p1 : Int32) (gC : Int32) (h0 : Heap) (n0 : Nat) (Z0 : n0 ≤ h0.size) (OLD : Old Z n0 h0) (O2 : Sta Z Z.heap "java/lang/String" "COMPACT_STRINGS" "Z" (.int gC)) (hz : ¬ gC = (0 : Int32)) (hCH : Jvm.Lit.constHeld Z "java/lang/String" 7) (hCW : Jvm.Lit.compactW.before a0 Z = true) :
    MetFree l (⟨"com/example/skope/skope/xml/IntakeReplacedUncountedPinLaw", "name", "(I)Ljava/lang/String;"⟩ : MethodName) (head1 (Jvm.Cond.code (⟨"com/example/skope/skope/xml/IntakeReplacedUncountedPinLaw", "name", "(I)Ljava/lang/String;"⟩ : MethodName) method_2_code 4 (some (.object "java/lang/String")) :: wsC) ({ frames := 4, cells := 4, slots := 8, locals := 66 } : Room)) (fun a U => a = #[(.int p1)] ∧ Z.Warmed39 U.vm ∧ U.heap = h0 ∧ own_EOK Z h0 U.vm) (fun _ _ _ _ _ => True) (fun _ U o U' => ∃ v L, o = .returned v ∧ Q1 Z p1 gC h0 n0 v U'.heap L U'.vm ∧ ReturnedEndW U o U' L ({ frames := 4, cells := 4, slots := 8, locals := 66 } : Room).cells ({ frames := 4, cells := 4, slots := 8, locals := 66 } : Room).slots) := by
  refine MetFree.of_bodySF (plainFor_of_name pn_2) hisR ?_
  intro p e s0 m args below meth c s₁ Bd hml0 hP hK
  obtain ⟨rfl, hZ, hh, JK⟩ := hP
  have hx := Bd.exec
  have hby := Bd.bytes
  have hml : c.maxLocals = 4 := hml0
  obtain ⟨vmw, hvw⟩ : ∃ z, z = s0.vm := ⟨_, rfl⟩
  obtain ⟨s, hsE⟩ : ∃ z, z = s0.setVm vmw := ⟨_, rfl⟩
  have SI : s0.Since vmw 0 := by rw [hvw]; exact (State.WarmedH.refl s0).since 0
  have W0 : 0 ≤ h0.size := Nat.zero_le _
  have hss : s = s0 := by rw [hsE, hvw]; rfl
  rw [← hss] at hZ
  replace JK : own_EOK Z h0 vmw := by rw [hvw]; exact JK
  have hown : s.vm.findClass "com/example/skope/skope/xml/IntakeReplacedUncountedPinLaw" = some m.cls := by rw [hss]; exact findClass_of_methodNamed Bd.named
  have hnm := (name_of_methodNamed Bd.named Bd.method).1
  have X0 : Stand p l e ({ frames := 4, cells := 4, slots := 8, locals := 66 } : Room) s m #[(.int p1)] below meth c s₁ [] 0 0 := by rw [hss]; exact Stand.of_body Bd
  clear hss hvw
  skip
  have e0 : s₁.heap = h0 := by rw [← hh, Bd.state]; rfl
  have NF := Fr.nil n0
  have KP : Keep h0 h0 [] := Keep.refl h0 _
  refine WP.go ?_
  refine WP.cast (ef_1 m p1) ?_
  refine WP.name ?_
  intro G hG
  rcases JK with IB0 | ⟨la73, lb73, lk73, LT, Em73⟩
  · skip
    refine WP.st (T' := s₁) (f' := (mkF m 6 #[.val (.int p1), .val (.int ((p1 &&& (3 : Int32)) % (3 : Int32))), .unset, .unset] [])) (fun t k => ?_) ?_
    · refine XS.iloadN X0.here hx rfl (hb hby d1_0) rfl ?_
      show Steps p.tables e below (s₁.setTop (mkF m 1 #[.val (.int p1), .unset, .unset, .unset] [(.int p1)])) t
      refine XS.iconst X0.here hx rfl (hb hby d1_1) ?_
      show Steps p.tables e below (s₁.setTop (mkF m 2 #[.val (.int p1), .unset, .unset, .unset] [(.int (3 : Int32)), (.int p1)])) t
      refine XS.iand X0.here hx rfl (hb hby d1_2) rfl ?_
      show Steps p.tables e below (s₁.setTop (mkF m 3 #[.val (.int p1), .unset, .unset, .unset] [(.int (p1 &&& (3 : Int32)))])) t
      refine XS.iconst X0.here hx rfl (hb hby d1_3) ?_
      show Steps p.tables e below (s₁.setTop (mkF m 4 #[.val (.int p1), .unset, .unset, .unset] [(.int (3 : Int32)), (.int (p1 &&& (3 : Int32)))])) t
      refine iremM X0 hx rfl (hb hby d1_4) rfl (by decide) ?_
      show Steps p.tables e below (s₁.setTop (mkF m 5 #[.val (.int p1), .unset, .unset, .unset] [(.int ((p1 &&& (3 : Int32)) % (3 : Int32)))])) t
      refine XS.istoreN X0.here hx rfl (hb hby d1_5) rfl (l' := #[.val (.int p1), .val (.int ((p1 &&& (3 : Int32)) % (3 : Int32))), .unset, .unset]) rfl ?_
      exact k
    have J74 : ∀ (Tj74 : State) (Lj74 : List Loc)  (c0 : Int32), Stand p l e ({ frames := 4, cells := 4, slots := 8, locals := 66 } : Room) s m #[(.int p1)] below meth c Tj74 Lj74 0 0 → Tj74.heap = h0 → Fr n0 Lj74 → (own_byte c0) → WP p.tables e below G Tj74 (mkF m 25 #[.val (.int p1), .val (.int ((p1 &&& (3 : Int32)) % (3 : Int32))), .unset, .unset] [(.int c0)]) := by
      clear NF
      intro Tj74 Lj74  c0 X74 ej74 NF hb0
      refine WP.st (T' := Tj74) (f' := (mkF m 37 #[.val (.int p1), .val (.int ((p1 &&& (3 : Int32)) % (3 : Int32))), .val (.int c0), .val (.int ((((p1.toUInt32 >>> ((11 : Int32) &&& 31).toUInt32).toInt32) &&& (255 : Int32)).toUInt32.toUInt16.toUInt32.toInt32))] [(.int ((p1 &&& (3 : Int32)) % (3 : Int32)))])) (fun t k => ?_) ?_
      · refine XS.istoreN X74.here hx rfl (hb hby d1_25) rfl (l' := #[.val (.int p1), .val (.int ((p1 &&& (3 : Int32)) % (3 : Int32))), .val (.int c0), .unset]) rfl ?_
        show Steps p.tables e below (Tj74.setTop (mkF m 26 #[.val (.int p1), .val (.int ((p1 &&& (3 : Int32)) % (3 : Int32))), .val (.int c0), .unset] [])) t
        refine XS.iloadN X74.here hx rfl (hb hby d1_26) rfl ?_
        show Steps p.tables e below (Tj74.setTop (mkF m 27 #[.val (.int p1), .val (.int ((p1 &&& (3 : Int32)) % (3 : Int32))), .val (.int c0), .unset] [(.int p1)])) t
        refine XS.bipush X74.here hx rfl (hb hby d1_27) ?_
        show Steps p.tables e below (Tj74.setTop (mkF m 29 #[.val (.int p1), .val (.int ((p1 &&& (3 : Int32)) % (3 : Int32))), .val (.int c0), .unset] [(.int (11 : Int32)), (.int p1)])) t
        refine XS.iushr X74.here hx rfl (hb hby d1_29) rfl ?_
        show Steps p.tables e below (Tj74.setTop (mkF m 30 #[.val (.int p1), .val (.int ((p1 &&& (3 : Int32)) % (3 : Int32))), .val (.int c0), .unset] [(.int ((p1.toUInt32 >>> ((11 : Int32) &&& 31).toUInt32).toInt32))])) t
        refine XS.sipush X74.here hx rfl (hb hby d1_30) ?_
        show Steps p.tables e below (Tj74.setTop (mkF m 33 #[.val (.int p1), .val (.int ((p1 &&& (3 : Int32)) % (3 : Int32))), .val (.int c0), .unset] [(.int (255 : Int32)), (.int ((p1.toUInt32 >>> ((11 : Int32) &&& 31).toUInt32).toInt32))])) t
        refine XS.iand X74.here hx rfl (hb hby d1_33) rfl ?_
        show Steps p.tables e below (Tj74.setTop (mkF m 34 #[.val (.int p1), .val (.int ((p1 &&& (3 : Int32)) % (3 : Int32))), .val (.int c0), .unset] [(.int (((p1.toUInt32 >>> ((11 : Int32) &&& 31).toUInt32).toInt32) &&& (255 : Int32)))])) t
        refine XS.i2c X74.here hx rfl (hb hby d1_34) rfl ?_
        show Steps p.tables e below (Tj74.setTop (mkF m 35 #[.val (.int p1), .val (.int ((p1 &&& (3 : Int32)) % (3 : Int32))), .val (.int c0), .unset] [(.int ((((p1.toUInt32 >>> ((11 : Int32) &&& 31).toUInt32).toInt32) &&& (255 : Int32)).toUInt32.toUInt16.toUInt32.toInt32))])) t
        refine XS.istoreN X74.here hx rfl (hb hby d1_35) rfl (l' := #[.val (.int p1), .val (.int ((p1 &&& (3 : Int32)) % (3 : Int32))), .val (.int c0), .val (.int ((((p1.toUInt32 >>> ((11 : Int32) &&& 31).toUInt32).toInt32) &&& (255 : Int32)).toUInt32.toUInt16.toUInt32.toInt32))]) rfl ?_
        show Steps p.tables e below (Tj74.setTop (mkF m 36 #[.val (.int p1), .val (.int ((p1 &&& (3 : Int32)) % (3 : Int32))), .val (.int c0), .val (.int ((((p1.toUInt32 >>> ((11 : Int32) &&& 31).toUInt32).toInt32) &&& (255 : Int32)).toUInt32.toUInt16.toUInt32.toInt32))] [])) t
        refine XS.iloadN X74.here hx rfl (hb hby d1_36) rfl ?_
        exact k
      by_cases hc75 : ((p1 &&& (3 : Int32)) % (3 : Int32)) = (0 : Int32)
      · skip
        refine WP.st (T' := Tj74) (f' := (mkF m 40 #[.val (.int p1), .val (.int ((p1 &&& (3 : Int32)) % (3 : Int32))), .val (.int c0), .val (.int ((((p1.toUInt32 >>> ((11 : Int32) &&& 31).toUInt32).toInt32) &&& (255 : Int32)).toUInt32.toUInt16.toUInt32.toInt32))] [])) (fun t k => ?_) ?_
        · refine XS.ifNo X74.here hx rfl (hb hby d1_37) rfl ((if0 _ _).trans (teq hc75).2) ?_
          exact k
        obtain ⟨T76, h76, X76, e76, E76, A76, D76, -, st76⟩ := newO X74 hx hZ hown (w_4 hw) (w_5 hw) (w_6 hw) ej74 (g := (mkF m 40 #[.val (.int p1), .val (.int ((p1 &&& (3 : Int32)) % (3 : Int32))), .val (.int c0), .val (.int ((((p1.toUInt32 >>> ((11 : Int32) &&& 31).toUInt32).toInt32) &&& (255 : Int32)).toUInt32.toUInt16.toUInt32.toInt32))] [])) rfl (hb hby d1_40) (by decide) (by decide)
        obtain ⟨b76, g76⟩ : ∃ z, z = h0.size := ⟨_, rfl⟩
        rw [← g76] at A76 D76 st76
        refine WP.st st76 ?_
        clear st76
        have g_b76 : n0 ≤ b76 := Nat.le_trans Z0 (Nat.le_of_eq g76.symm)
        have sz_b76 : h0.size ≤ b76 := Nat.le_trans KP.1 (Nat.le_of_eq g76.symm)
        replace OLD := OLD.ext E76
        replace Z0 := Nat.le_trans Z0 E76.1
        replace W0 := Nat.le_trans W0 E76.1
        replace KP := KP.ext E76
        have E_b76 := A76
        have F_b76_value : Fld Z h76 b76 "java/lang/String" "value" "[B" .null := D76 (Or.inr (w_20 hw)) (ty := (.array .byte)) (by decide)
        have F_b76_coder : Fld Z h76 b76 "java/lang/String" "coder" "B" (.int (0 : Int32)) := D76 (Or.inr (w_21 hw)) (ty := .byte) (by decide)
        clear D76 A76
        show WP p.tables e below _ T76 (mkF m 43 #[.val (.int p1), .val (.int ((p1 &&& (3 : Int32)) % (3 : Int32))), .val (.int c0), .val (.int ((((p1.toUInt32 >>> ((11 : Int32) &&& 31).toUInt32).toInt32) &&& (255 : Int32)).toUInt32.toUInt16.toUInt32.toInt32))] [(.ref b76)])
        refine WP.st (T' := T76) (f' := (mkF m 45 #[.val (.int p1), .val (.int ((p1 &&& (3 : Int32)) % (3 : Int32))), .val (.int c0), .val (.int ((((p1.toUInt32 >>> ((11 : Int32) &&& 31).toUInt32).toInt32) &&& (255 : Int32)).toUInt32.toUInt16.toUInt32.toInt32))] [(.int (0 : Int32)), (.ref b76), (.ref b76)])) (fun t k => ?_) ?_
        · refine XS.dup X76.here hx rfl (hb hby d1_43) rfl rfl ?_
          show Steps p.tables e below (T76.setTop (mkF m 44 #[.val (.int p1), .val (.int ((p1 &&& (3 : Int32)) % (3 : Int32))), .val (.int c0), .val (.int ((((p1.toUInt32 >>> ((11 : Int32) &&& 31).toUInt32).toInt32) &&& (255 : Int32)).toUInt32.toUInt16.toUInt32.toInt32))] [(.ref b76), (.ref b76)])) t
          refine XS.iconst X76.here hx rfl (hb hby d1_44) ?_
          exact k
        obtain ⟨T77, h77, k77, X77, e77, E77, A77, st77⟩ := newP (aty := .char) X76 hx hZ (w_7 hw) e76 (g := (mkF m 45 #[.val (.int p1), .val (.int ((p1 &&& (3 : Int32)) % (3 : Int32))), .val (.int c0), .val (.int ((((p1.toUInt32 >>> ((11 : Int32) &&& 31).toUInt32).toInt32) &&& (255 : Int32)).toUInt32.toUInt16.toUInt32.toInt32))] [(.int (0 : Int32)), (.ref b76), (.ref b76)])) rfl (hb hby d1_45) rfl (by decide) (cap := 0) (by decide) (by decide) (by decide) (by decide)
        obtain ⟨b77, g77⟩ : ∃ z, z = h76.size := ⟨_, rfl⟩
        rw [← g77] at A77 st77
        refine WP.st st77 ?_
        clear st77
        have ne_b76_b77 : b76 ≠ b77 := Nat.ne_of_lt (Nat.lt_of_lt_of_le E_b76.lt (Nat.le_of_eq g77.symm))
        have g_b77 : n0 ≤ b77 := Nat.le_trans Z0 (Nat.le_of_eq g77.symm)
        have sz_b77 : h0.size ≤ b77 := Nat.le_trans KP.1 (Nat.le_of_eq g77.symm)
        replace OLD := OLD.ext E77
        replace E_b76 := E_b76.ext E77
        replace F_b76_value := F_b76_value.ext E77
        replace F_b76_coder := F_b76_coder.ext E77
        replace Z0 := Nat.le_trans Z0 E77.1
        replace W0 := Nat.le_trans W0 E77.1
        replace KP := KP.ext E77
        have V_b77 : Arv Z h77 b77 k77 .char (0 : Int32) [] (.int (0 : Int32)) := (Arv.new A77 (by decide)).pad (pad_rep [] (.int (0 : Int32)) 0)
        show WP p.tables e below _ T77 (mkF m 47 #[.val (.int p1), .val (.int ((p1 &&& (3 : Int32)) % (3 : Int32))), .val (.int c0), .val (.int ((((p1.toUInt32 >>> ((11 : Int32) &&& 31).toUInt32).toInt32) &&& (255 : Int32)).toUInt32.toUInt16.toUInt32.toInt32))] [(.ref b77), (.ref b76), (.ref b76)])
        subst hsE
        obtain ⟨_, _, ⟨T78, L78, k78, n78⟩, -, X78, SJ78, gr78, ⟨Lc78, hQ78, l78, y78, z78⟩, st78⟩ := X77.specialBackS hx (y := (⟨"java/lang/String", "<init>", "([C)V"⟩ : MethodName)) rfl hown (mvT hZ (w_8 hw)) (mvT hZ (w_9 hw)) (mvT hZ (w_10 hw)) (by decide) (own_backOfJ (J := own_Cold Z) (W := 1) (rm2c l Z a0 hw [] b76 b77 k77 [] h77 n0 Z0 E_b76 g_b76 F_b76_value F_b76_coder V_b77 OLD (hCH : Jvm.Lit.constHeld Z "java/lang/String" 7) (hCW : Jvm.Lit.compactW.before a0 Z = true)) hZ (fun _ q => own_coldMv (s := s0.setVm vmw) IB0 q) (w_10 hw) (w_6 hw) (by decide) (by decide)) (g := (mkF m 47 #[.val (.int p1), .val (.int ((p1 &&& (3 : Int32)) % (3 : Int32))), .val (.int c0), .val (.int ((((p1.toUInt32 >>> ((11 : Int32) &&& 31).toUInt32).toInt32) &&& (255 : Int32)).toUInt32.toUInt16.toUInt32.toInt32))] [(.ref b77), (.ref b76), (.ref b76)])) rfl (by rw [hml]; rfl) (Steps.refl _) (a := b76) (argsL := [(.ref b77)]) (rest := [(.ref b76)]) (lenOf pd_9 rfl) rfl (by show 2 * 0 + _ ≤ _; exact Nat.le_of_eq rfl) (hb hby d1_47) (fun _ _ => ⟨rfl, e77, (by decide : 2 + 2 ≤ _), (by decide : 4 + 4 ≤ _)⟩)
        dsimp only [Pt.U, Pt.locs, Pt.cells, Pt.slots] at X78 l78 y78 z78 st78 hQ78 SJ78 gr78
        subst l78 y78 z78
        have SI78 := foldS SI (T := T77) (Nat.le_trans W0 (Nat.le_of_eq (by rw [e77]))) SJ78 gr78
        have hZ78 := State.Warmed39.trans (t := s0.setVm vmw) hZ SJ78.1
        have hown78 : T78.vm.findClass "com/example/skope/skope/xml/IntakeReplacedUncountedPinLaw" = some m.cls := by rw [SJ78.1.alike.findClass]; exact hown
        obtain ⟨la_78, lb_78, lk_78, rfl, Nq78, Kq78, nE78_b76, nF78_b76_coder, nF78_b76_value, nA78_lb_78, nE78_la_78, nF78_la_78_coder, nF78_la_78_value, ne_la_78_b76, LT78⟩ := hQ78
        replace NF := Fr.app NF Nq78
        clear Nq78
        refine WP.tr st78 ?_
        clear st78
        obtain ⟨h78, e78⟩ : ∃ h, T78.heap = h := ⟨_, rfl⟩
        rw [e78] at Kq78 nE78_b76 nF78_b76_coder nF78_b76_value nA78_lb_78 nE78_la_78 nF78_la_78_coder nF78_la_78_value
        replace OLD := OLD.keep Kq78 (allS g_b76 all0)
        replace E_b76 := E_b76.keep Kq78
        clear F_b76_value
        clear F_b76_coder
        replace V_b77 := V_b77.keep Kq78 (by exact ninS (Ne.symm ne_b76_b77) (nin0))
        replace Z0 := Nat.le_trans Z0 Kq78.1
        replace W0 := Nat.le_trans W0 Kq78.1
        replace KP := KP.trans Kq78 (allS (Or.inr sz_b76) all0)
        clear Kq78
        clear E_b76
        have E_b76 := nE78_b76
        clear nE78_b76
        have F_b76_coder := nF78_b76_coder
        clear nF78_b76_coder
        have F_b76_value := nF78_b76_value
        clear nF78_b76_value
        have V_lb_78 := nA78_lb_78
        clear nA78_lb_78
        have E_la_78 := nE78_la_78
        clear nE78_la_78
        have F_la_78_coder := nF78_la_78_coder
        clear nF78_la_78_coder
        have F_la_78_value := nF78_la_78_value
        clear nF78_la_78_value
        clear W0
        have W0 : T78.heap.size ≤ h78.size := Nat.le_of_eq (by rw [e78])
        clear hZ hown SI IB0
        obtain ⟨vmw, hvw⟩ : ∃ z, z = T78.vm := ⟨_, rfl⟩
        replace hZ78 : Z.Warmed39 vmw := by rw [hvw]; exact hZ78
        replace hown78 : vmw.findClass "com/example/skope/skope/xml/IntakeReplacedUncountedPinLaw" = some m.cls := by rw [hvw]; exact hown78
        have SI := SI78
        clear SI78
        rw [← hvw] at SI
        have LT : own_Hot Z la_78 vmw := by rw [hvw]; exact LT78
        clear LT78
        obtain ⟨s, hsE⟩ : ∃ z, z = s0.setVm vmw := ⟨_, rfl⟩
        have hX : ∃ LL, Stand p l e ({ frames := 4, cells := 4, slots := 8, locals := 66 } : Room) s m #[(.int p1)] below meth c T78 LL 4 8 ∧ Fr n0 LL := ⟨_, (by rw [hsE, hvw]; exact X78), NF⟩
        clear X78 NF
        obtain ⟨LL78, X78, NF⟩ := hX
        clear hvw
        have hZ : Z.Warmed39 s.vm := by rw [hsE]; exact hZ78
        have hown : s.vm.findClass "com/example/skope/skope/xml/IntakeReplacedUncountedPinLaw" = some m.cls := by rw [hsE]; exact hown78
        clear hZ78 hown78
        have hXN : ∃ LL, Stand p l e ({ frames := 4, cells := 4, slots := 8, locals := 66 } : Room) s m #[(.int p1)] below meth c T78 LL 4 8 ∧ Fr n0 LL := ⟨_, X78, NF⟩
        clear X78 NF
        obtain ⟨LL79, X78, NF⟩ := hXN
        show WP p.tables e below _ T78 (mkF m 50 #[.val (.int p1), .val (.int ((p1 &&& (3 : Int32)) % (3 : Int32))), .val (.int c0), .val (.int ((((p1.toUInt32 >>> ((11 : Int32) &&& 31).toUInt32).toInt32) &&& (255 : Int32)).toUInt32.toUInt16.toUInt32.toInt32))] [(.ref b76)])
        subst hG
        subst hsE
        obtain ⟨fs, hr, hrun, hended, hEW⟩ := X78.leaveW SI (Nat.le_trans W0 (Nat.le_of_eq (by rw [e78]))) (v := some (.ref b76)) (fun h => by rw [Bd.returns] at h; cases h)
        refine WP.fin ⟨_, _, ?_, hrun, hended, _, _, rfl, ?_, hEW.1, hEW.2.1, hEW.2.2.1, hEW.2.2.2.mono (by decide) (by decide)⟩
        · exact retOut X78 hx Bd.returns rfl (Or.inr (Or.inr (Or.inr (Or.inr ⟨rfl, rfl, rfl⟩)))) (hb hby d1_50) hr
        · show Q1 Z p1 gC h0 n0 _ T78.heap _ T78.vm
          rw [e78]
          exact ⟨b76, lb_78, lk_78, ([] : List Int32), rfl, NF, KP, sz_b76, E_b76, F_b76_coder, F_b76_value, V_lb_78, (fun c hc => absurd hc (by simp)), (by simp), (Or.inr ⟨la_78, lb_78, lk_78, own_hotMv (s := s0.setVm vmw) LT X78.warmed, E_la_78, F_la_78_coder, F_la_78_value, V_lb_78⟩)⟩
      · skip
        refine WP.st (T' := Tj74) (f' := (mkF m 53 #[.val (.int p1), .val (.int ((p1 &&& (3 : Int32)) % (3 : Int32))), .val (.int c0), .val (.int ((((p1.toUInt32 >>> ((11 : Int32) &&& 31).toUInt32).toInt32) &&& (255 : Int32)).toUInt32.toUInt16.toUInt32.toInt32))] [(.int (1 : Int32)), (.int ((p1 &&& (3 : Int32)) % (3 : Int32)))])) (fun t k => ?_) ?_
        · refine XS.ifYes X74.here hx rfl (pc0 := 37) (pc' := 51) rfl (hb hby d1_37) rfl ((if0 _ _).trans (feq hc75).2) (by decide) (by decide) ?_
          show Steps p.tables e below (Tj74.setTop (mkF m 51 #[.val (.int p1), .val (.int ((p1 &&& (3 : Int32)) % (3 : Int32))), .val (.int c0), .val (.int ((((p1.toUInt32 >>> ((11 : Int32) &&& 31).toUInt32).toInt32) &&& (255 : Int32)).toUInt32.toUInt16.toUInt32.toInt32))] [])) t
          refine XS.iloadN X74.here hx rfl (hb hby d1_51) rfl ?_
          show Steps p.tables e below (Tj74.setTop (mkF m 52 #[.val (.int p1), .val (.int ((p1 &&& (3 : Int32)) % (3 : Int32))), .val (.int c0), .val (.int ((((p1.toUInt32 >>> ((11 : Int32) &&& 31).toUInt32).toInt32) &&& (255 : Int32)).toUInt32.toUInt16.toUInt32.toInt32))] [(.int ((p1 &&& (3 : Int32)) % (3 : Int32)))])) t
          refine XS.iconst X74.here hx rfl (hb hby d1_52) ?_
          exact k
        by_cases hc80 : ((p1 &&& (3 : Int32)) % (3 : Int32)) = (1 : Int32)
        · skip
          refine WP.st (T' := Tj74) (f' := (mkF m 57 #[.val (.int p1), .val (.int ((p1 &&& (3 : Int32)) % (3 : Int32))), .val (.int c0), .val (.int ((((p1.toUInt32 >>> ((11 : Int32) &&& 31).toUInt32).toInt32) &&& (255 : Int32)).toUInt32.toUInt16.toUInt32.toInt32))] [(.int c0)])) (fun t k => ?_) ?_
          · refine XS.icmpNo X74.here hx rfl (hb hby d1_53) rfl (teq hc80).2 ?_
            show Steps p.tables e below (Tj74.setTop (mkF m 56 #[.val (.int p1), .val (.int ((p1 &&& (3 : Int32)) % (3 : Int32))), .val (.int c0), .val (.int ((((p1.toUInt32 >>> ((11 : Int32) &&& 31).toUInt32).toInt32) &&& (255 : Int32)).toUInt32.toUInt16.toUInt32.toInt32))] [])) t
            refine XS.iloadN X74.here hx rfl (hb hby d1_56) rfl ?_
            exact k
          obtain ⟨_, _, ⟨T81, L81, k81, n81⟩, -, X81, ⟨Lc81, hQ81, l81, y81, z81⟩, st81⟩ := Jvm.LawKit.callS X74 hx (y := (⟨"java/lang/String", "valueOf", "(C)Ljava/lang/String;"⟩ : MethodName)) hown (mvT hZ (w_110 hw)) (mvT hZ (w_111 hw)) (mvT hZ (w_6 hw)) (mvT hZ (w_112 hw)) (by decide) (backOf (W := 0) (rm18 l Z a0 hw [] c0 gC h0 n0 Z0 OLD (O2 : Sta Z Z.heap "java/lang/String" "COMPACT_STRINGS" "Z" (.int gC)) (hz : ¬ gC = (0 : Int32)) (hb0 : own_byte c0)) hZ (w_112 hw) (w_6 hw) (by decide) (by decide)) (g := (mkF m 57 #[.val (.int p1), .val (.int ((p1 &&& (3 : Int32)) % (3 : Int32))), .val (.int c0), .val (.int ((((p1.toUInt32 >>> ((11 : Int32) &&& 31).toUInt32).toInt32) &&& (255 : Int32)).toUInt32.toUInt16.toUInt32.toInt32))] [(.int c0)])) rfl (by rw [hml]; rfl) (argsL := [(.int c0)]) (rest := []) (lenOf pd_10 rfl) rfl (by show 2 * 0 + _ ≤ _; exact Nat.le_of_eq rfl) (hb hby d1_57) (fun _ _ => ⟨rfl, ej74, (by decide : 0 + 2 ≤ _), (by decide : 0 + 5 ≤ _)⟩)
          dsimp only [Pt.U, Pt.locs, Pt.cells, Pt.slots] at X81 l81 y81 z81 st81 hQ81
          subst l81 y81 z81
          obtain ⟨r_81, ta_81, kb_81, rfl, Nq81, Kq81, szq_r_81, nE81_r_81, nF81_r_81_coder, nF81_r_81_value, nA81_ta_81⟩ := hQ81
          replace NF := Fr.app NF Nq81
          clear Nq81
          refine WP.st st81 ?_
          clear st81
          obtain ⟨h81, e81⟩ : ∃ h, T81.heap = h := ⟨_, rfl⟩
          rw [e81] at Kq81 nE81_r_81 nF81_r_81_coder nF81_r_81_value nA81_ta_81
          have sz_r_81 : h0.size ≤ r_81 := Nat.le_trans KP.1 szq_r_81
          replace OLD := OLD.keep Kq81 all0
          replace Z0 := Nat.le_trans Z0 Kq81.1
          replace W0 := Nat.le_trans W0 Kq81.1
          replace KP := KP.trans Kq81 all0
          clear Kq81
          have E_r_81 := nE81_r_81
          clear nE81_r_81
          have F_r_81_coder := nF81_r_81_coder
          clear nF81_r_81_coder
          have F_r_81_value := nF81_r_81_value
          clear nF81_r_81_value
          have V_ta_81 := nA81_ta_81
          clear nA81_ta_81
          have hXN : ∃ LL, Stand p l e ({ frames := 4, cells := 4, slots := 8, locals := 66 } : Room) s m #[(.int p1)] below meth c T81 LL 2 5 ∧ Fr n0 LL := ⟨_, X81, NF⟩
          clear X81 NF
          obtain ⟨LL82, X81, NF⟩ := hXN
          show WP p.tables e below _ T81 (mkF m 60 #[.val (.int p1), .val (.int ((p1 &&& (3 : Int32)) % (3 : Int32))), .val (.int c0), .val (.int ((((p1.toUInt32 >>> ((11 : Int32) &&& 31).toUInt32).toInt32) &&& (255 : Int32)).toUInt32.toUInt16.toUInt32.toInt32))] [(.ref r_81)])
          subst hG
          subst hsE
          obtain ⟨fs, hr, hrun, hended, hEW⟩ := X81.leaveW SI (Nat.le_trans W0 (Nat.le_of_eq (by rw [e81]))) (v := some (.ref r_81)) (fun h => by rw [Bd.returns] at h; cases h)
          refine WP.fin ⟨_, _, ?_, hrun, hended, _, _, rfl, ?_, hEW.1, hEW.2.1, hEW.2.2.1, hEW.2.2.2.mono (by decide) (by decide)⟩
          · exact retOut X81 hx Bd.returns rfl (Or.inr (Or.inr (Or.inr (Or.inr ⟨rfl, rfl, rfl⟩)))) (hb hby d1_60) hr
          · show Q1 Z p1 gC h0 n0 _ T81.heap _ T81.vm
            rw [e81]
            exact ⟨r_81, ta_81, kb_81, [c0], rfl, NF, KP, sz_r_81, E_r_81, F_r_81_coder, F_r_81_value, V_ta_81, (fun c hc => (List.mem_singleton.mp hc) ▸ hb0), (by simp), (Or.inl (own_coldMv (s := s0.setVm vmw) IB0 X81.warmed))⟩
        · skip
          refine WP.st (T' := Tj74) (f' := (mkF m 61 #[.val (.int p1), .val (.int ((p1 &&& (3 : Int32)) % (3 : Int32))), .val (.int c0), .val (.int ((((p1.toUInt32 >>> ((11 : Int32) &&& 31).toUInt32).toInt32) &&& (255 : Int32)).toUInt32.toUInt16.toUInt32.toInt32))] [])) (fun t k => ?_) ?_
          · refine XS.icmpYes X74.here hx rfl (pc0 := 53) (pc' := 61) rfl (hb hby d1_53) rfl (feq hc80).2 (by decide) (by decide) ?_
            exact k
          obtain ⟨T83, h83, X83, e83, E83, A83, D83, -, st83⟩ := newO X74 hx hZ hown (w_4 hw) (w_5 hw) (w_6 hw) ej74 (g := (mkF m 61 #[.val (.int p1), .val (.int ((p1 &&& (3 : Int32)) % (3 : Int32))), .val (.int c0), .val (.int ((((p1.toUInt32 >>> ((11 : Int32) &&& 31).toUInt32).toInt32) &&& (255 : Int32)).toUInt32.toUInt16.toUInt32.toInt32))] [])) rfl (hb hby d1_61) (by decide) (by decide)
          obtain ⟨b83, g83⟩ : ∃ z, z = h0.size := ⟨_, rfl⟩
          rw [← g83] at A83 D83 st83
          refine WP.st st83 ?_
          clear st83
          have g_b83 : n0 ≤ b83 := Nat.le_trans Z0 (Nat.le_of_eq g83.symm)
          have sz_b83 : h0.size ≤ b83 := Nat.le_trans KP.1 (Nat.le_of_eq g83.symm)
          replace OLD := OLD.ext E83
          replace Z0 := Nat.le_trans Z0 E83.1
          replace W0 := Nat.le_trans W0 E83.1
          replace KP := KP.ext E83
          have E_b83 := A83
          have F_b83_value : Fld Z h83 b83 "java/lang/String" "value" "[B" .null := D83 (Or.inr (w_20 hw)) (ty := (.array .byte)) (by decide)
          have F_b83_coder : Fld Z h83 b83 "java/lang/String" "coder" "B" (.int (0 : Int32)) := D83 (Or.inr (w_21 hw)) (ty := .byte) (by decide)
          clear D83 A83
          show WP p.tables e below _ T83 (mkF m 64 #[.val (.int p1), .val (.int ((p1 &&& (3 : Int32)) % (3 : Int32))), .val (.int c0), .val (.int ((((p1.toUInt32 >>> ((11 : Int32) &&& 31).toUInt32).toInt32) &&& (255 : Int32)).toUInt32.toUInt16.toUInt32.toInt32))] [(.ref b83)])
          refine WP.st (T' := T83) (f' := (mkF m 66 #[.val (.int p1), .val (.int ((p1 &&& (3 : Int32)) % (3 : Int32))), .val (.int c0), .val (.int ((((p1.toUInt32 >>> ((11 : Int32) &&& 31).toUInt32).toInt32) &&& (255 : Int32)).toUInt32.toUInt16.toUInt32.toInt32))] [(.int (2 : Int32)), (.ref b83), (.ref b83)])) (fun t k => ?_) ?_
          · refine XS.dup X83.here hx rfl (hb hby d1_64) rfl rfl ?_
            show Steps p.tables e below (T83.setTop (mkF m 65 #[.val (.int p1), .val (.int ((p1 &&& (3 : Int32)) % (3 : Int32))), .val (.int c0), .val (.int ((((p1.toUInt32 >>> ((11 : Int32) &&& 31).toUInt32).toInt32) &&& (255 : Int32)).toUInt32.toUInt16.toUInt32.toInt32))] [(.ref b83), (.ref b83)])) t
            refine XS.iconst X83.here hx rfl (hb hby d1_65) ?_
            exact k
          obtain ⟨T84, h84, k84, X84, e84, E84, A84, st84⟩ := newP (aty := .char) X83 hx hZ (w_7 hw) e83 (g := (mkF m 66 #[.val (.int p1), .val (.int ((p1 &&& (3 : Int32)) % (3 : Int32))), .val (.int c0), .val (.int ((((p1.toUInt32 >>> ((11 : Int32) &&& 31).toUInt32).toInt32) &&& (255 : Int32)).toUInt32.toUInt16.toUInt32.toInt32))] [(.int (2 : Int32)), (.ref b83), (.ref b83)])) rfl (hb hby d1_66) rfl (by decide) (cap := 2) (by decide) (by decide) (by decide) (by decide)
          obtain ⟨b84, g84⟩ : ∃ z, z = h83.size := ⟨_, rfl⟩
          rw [← g84] at A84 st84
          refine WP.st st84 ?_
          clear st84
          have ne_b83_b84 : b83 ≠ b84 := Nat.ne_of_lt (Nat.lt_of_lt_of_le E_b83.lt (Nat.le_of_eq g84.symm))
          have g_b84 : n0 ≤ b84 := Nat.le_trans Z0 (Nat.le_of_eq g84.symm)
          have sz_b84 : h0.size ≤ b84 := Nat.le_trans KP.1 (Nat.le_of_eq g84.symm)
          replace OLD := OLD.ext E84
          replace E_b83 := E_b83.ext E84
          replace F_b83_value := F_b83_value.ext E84
          replace F_b83_coder := F_b83_coder.ext E84
          replace Z0 := Nat.le_trans Z0 E84.1
          replace W0 := Nat.le_trans W0 E84.1
          replace KP := KP.ext E84
          have V_b84 : Arv Z h84 b84 k84 .char (2 : Int32) [(.int (0 : Int32)), (.int (0 : Int32))] (.int (0 : Int32)) := (Arv.new A84 (by decide)).pad (pad_rep [] (.int (0 : Int32)) 2)
          show WP p.tables e below _ T84 (mkF m 68 #[.val (.int p1), .val (.int ((p1 &&& (3 : Int32)) % (3 : Int32))), .val (.int c0), .val (.int ((((p1.toUInt32 >>> ((11 : Int32) &&& 31).toUInt32).toInt32) &&& (255 : Int32)).toUInt32.toUInt16.toUInt32.toInt32))] [(.ref b84), (.ref b83), (.ref b83)])
          refine WP.st (T' := T84) (f' := (mkF m 71 #[.val (.int p1), .val (.int ((p1 &&& (3 : Int32)) % (3 : Int32))), .val (.int c0), .val (.int ((((p1.toUInt32 >>> ((11 : Int32) &&& 31).toUInt32).toInt32) &&& (255 : Int32)).toUInt32.toUInt16.toUInt32.toInt32))] [(.int c0), (.int (0 : Int32)), (.ref b84), (.ref b84), (.ref b83), (.ref b83)])) (fun t k => ?_) ?_
          · refine XS.dup X84.here hx rfl (hb hby d1_68) rfl rfl ?_
            show Steps p.tables e below (T84.setTop (mkF m 69 #[.val (.int p1), .val (.int ((p1 &&& (3 : Int32)) % (3 : Int32))), .val (.int c0), .val (.int ((((p1.toUInt32 >>> ((11 : Int32) &&& 31).toUInt32).toInt32) &&& (255 : Int32)).toUInt32.toUInt16.toUInt32.toInt32))] [(.ref b84), (.ref b84), (.ref b83), (.ref b83)])) t
            refine XS.iconst X84.here hx rfl (hb hby d1_69) ?_
            show Steps p.tables e below (T84.setTop (mkF m 70 #[.val (.int p1), .val (.int ((p1 &&& (3 : Int32)) % (3 : Int32))), .val (.int c0), .val (.int ((((p1.toUInt32 >>> ((11 : Int32) &&& 31).toUInt32).toInt32) &&& (255 : Int32)).toUInt32.toUInt16.toUInt32.toInt32))] [(.int (0 : Int32)), (.ref b84), (.ref b84), (.ref b83), (.ref b83)])) t
            refine XS.iloadN X84.here hx rfl (hb hby d1_70) rfl ?_
            exact k
          obtain ⟨cl85, Ar85, q85, S85, N85, H85, G85⟩ := V_b84
          have hin85 : ¬ ((0 : Int32) < 0 ∨ cl85.slots.size ≤ ((0 : Int32)).toNatClampNeg) := inb_of S85 ⟨by decide, by decide⟩
          obtain ⟨T86, h86, X86, e86, W86, st86⟩ := stC X84 hx hZ e84 Ar85 (j := (0 : Int32)) hin85 (g := (mkF m 71 #[.val (.int p1), .val (.int ((p1 &&& (3 : Int32)) % (3 : Int32))), .val (.int c0), .val (.int ((((p1.toUInt32 >>> ((11 : Int32) &&& 31).toUInt32).toInt32) &&& (255 : Int32)).toUInt32.toUInt16.toUInt32.toInt32))] [(.int c0), (.int (0 : Int32)), (.ref b84), (.ref b84), (.ref b83), (.ref b83)])) rfl rfl (hb hby d1_71)
          refine WP.st st86 ?_
          clear st86
          have Vn : Arv Z h86 b84 k84 .char (2 : Int32) [(.int (nar .char c0)), (.int (0 : Int32))] (.int (0 : Int32)) := Arv.set Ar85 q85 S85 N85 H85 G85 (fits_nar_char _) W86 0 rfl (Nat.le_of_ble_eq_true rfl)
          replace OLD := OLD.wr W86 g_b84
          replace E_b83 := E_b83.wr W86
          replace F_b83_value := F_b83_value.other W86 (Or.inl ne_b83_b84)
          replace F_b83_coder := F_b83_coder.other W86 (Or.inl ne_b83_b84)
          replace Z0 := Nat.le_trans Z0 (Keep.of_wr W86).1
          replace W0 := Nat.le_trans W0 (Keep.of_wr W86).1
          replace KP := KP.wr W86 (Or.inr sz_b84)
          replace V_b84 := Vn
          replace NF := Fr.snoc X86 NF g_b84
          clear W86 hin85 q85 S85 N85 H85 G85 Ar85
          have hXN : ∃ LL, Stand p l e ({ frames := 4, cells := 4, slots := 8, locals := 66 } : Room) s m #[(.int p1)] below meth c T86 LL 2 6 ∧ Fr n0 LL := ⟨_, X86, NF⟩
          clear X86 NF
          obtain ⟨LL87, X86, NF⟩ := hXN
          show WP p.tables e below _ T86 (mkF m 72 #[.val (.int p1), .val (.int ((p1 &&& (3 : Int32)) % (3 : Int32))), .val (.int c0), .val (.int ((((p1.toUInt32 >>> ((11 : Int32) &&& 31).toUInt32).toInt32) &&& (255 : Int32)).toUInt32.toUInt16.toUInt32.toInt32))] [(.ref b84), (.ref b83), (.ref b83)])
          refine WP.st (T' := T86) (f' := (mkF m 75 #[.val (.int p1), .val (.int ((p1 &&& (3 : Int32)) % (3 : Int32))), .val (.int c0), .val (.int ((((p1.toUInt32 >>> ((11 : Int32) &&& 31).toUInt32).toInt32) &&& (255 : Int32)).toUInt32.toUInt16.toUInt32.toInt32))] [(.int ((((p1.toUInt32 >>> ((11 : Int32) &&& 31).toUInt32).toInt32) &&& (255 : Int32)).toUInt32.toUInt16.toUInt32.toInt32)), (.int (1 : Int32)), (.ref b84), (.ref b84), (.ref b83), (.ref b83)])) (fun t k => ?_) ?_
          · refine XS.dup X86.here hx rfl (hb hby d1_72) rfl rfl ?_
            show Steps p.tables e below (T86.setTop (mkF m 73 #[.val (.int p1), .val (.int ((p1 &&& (3 : Int32)) % (3 : Int32))), .val (.int c0), .val (.int ((((p1.toUInt32 >>> ((11 : Int32) &&& 31).toUInt32).toInt32) &&& (255 : Int32)).toUInt32.toUInt16.toUInt32.toInt32))] [(.ref b84), (.ref b84), (.ref b83), (.ref b83)])) t
            refine XS.iconst X86.here hx rfl (hb hby d1_73) ?_
            show Steps p.tables e below (T86.setTop (mkF m 74 #[.val (.int p1), .val (.int ((p1 &&& (3 : Int32)) % (3 : Int32))), .val (.int c0), .val (.int ((((p1.toUInt32 >>> ((11 : Int32) &&& 31).toUInt32).toInt32) &&& (255 : Int32)).toUInt32.toUInt16.toUInt32.toInt32))] [(.int (1 : Int32)), (.ref b84), (.ref b84), (.ref b83), (.ref b83)])) t
            refine XS.iloadN X86.here hx rfl (hb hby d1_74) rfl ?_
            exact k
          obtain ⟨cl88, Ar88, q88, S88, N88, H88, G88⟩ := V_b84
          have hin88 : ¬ ((1 : Int32) < 0 ∨ cl88.slots.size ≤ ((1 : Int32)).toNatClampNeg) := inb_of S88 ⟨by decide, by decide⟩
          obtain ⟨T89, h89, X89, e89, W89, st89⟩ := stC X86 hx hZ e86 Ar88 (j := (1 : Int32)) hin88 (g := (mkF m 75 #[.val (.int p1), .val (.int ((p1 &&& (3 : Int32)) % (3 : Int32))), .val (.int c0), .val (.int ((((p1.toUInt32 >>> ((11 : Int32) &&& 31).toUInt32).toInt32) &&& (255 : Int32)).toUInt32.toUInt16.toUInt32.toInt32))] [(.int ((((p1.toUInt32 >>> ((11 : Int32) &&& 31).toUInt32).toInt32) &&& (255 : Int32)).toUInt32.toUInt16.toUInt32.toInt32)), (.int (1 : Int32)), (.ref b84), (.ref b84), (.ref b83), (.ref b83)])) rfl rfl (hb hby d1_75)
          refine WP.st st89 ?_
          clear st89
          have Vn : Arv Z h89 b84 k84 .char (2 : Int32) [(.int (nar .char c0)), (.int (nar .char ((((p1.toUInt32 >>> ((11 : Int32) &&& 31).toUInt32).toInt32) &&& (255 : Int32)).toUInt32.toUInt16.toUInt32.toInt32)))] (.int (0 : Int32)) := Arv.set Ar88 q88 S88 N88 H88 G88 (fits_nar_char _) W89 1 rfl (Nat.le_of_ble_eq_true rfl)
          replace OLD := OLD.wr W89 g_b84
          replace E_b83 := E_b83.wr W89
          replace F_b83_value := F_b83_value.other W89 (Or.inl ne_b83_b84)
          replace F_b83_coder := F_b83_coder.other W89 (Or.inl ne_b83_b84)
          replace Z0 := Nat.le_trans Z0 (Keep.of_wr W89).1
          replace W0 := Nat.le_trans W0 (Keep.of_wr W89).1
          replace KP := KP.wr W89 (Or.inr sz_b84)
          replace V_b84 := Vn
          replace NF := Fr.snoc X89 NF g_b84
          clear W89 hin88 q88 S88 N88 H88 G88 Ar88
          have hXN : ∃ LL, Stand p l e ({ frames := 4, cells := 4, slots := 8, locals := 66 } : Room) s m #[(.int p1)] below meth c T89 LL 2 6 ∧ Fr n0 LL := ⟨_, X89, NF⟩
          clear X89 NF
          obtain ⟨LL90, X89, NF⟩ := hXN
          show WP p.tables e below _ T89 (mkF m 76 #[.val (.int p1), .val (.int ((p1 &&& (3 : Int32)) % (3 : Int32))), .val (.int c0), .val (.int ((((p1.toUInt32 >>> ((11 : Int32) &&& 31).toUInt32).toInt32) &&& (255 : Int32)).toUInt32.toUInt16.toUInt32.toInt32))] [(.ref b84), (.ref b83), (.ref b83)])
          obtain ⟨_, _, ⟨T91, L91, k91, n91⟩, -, X91, ⟨Lc91, hQ91, l91, y91, z91⟩, st91⟩ := X89.specialBack hx (y := (⟨"java/lang/String", "<init>", "([C)V"⟩ : MethodName)) rfl hown (mvT hZ (w_8 hw)) (mvT hZ (w_9 hw)) (mvT hZ (w_10 hw)) (by decide) (StrChars.Road.backV (W := 1) hZ (own_ws hw) (kI := 4) (w_5 hw) (cs := ([(nar .char c0), (nar .char ((((p1.toUInt32 >>> ((11 : Int32) &&& 31).toUInt32).toInt32) &&& (255 : Int32)).toUInt32.toUInt16.toUInt32.toInt32))] : List Int32)) (bs := (([(nar .char c0), (nar .char ((((p1.toUInt32 >>> ((11 : Int32) &&& 31).toUInt32).toInt32) &&& (255 : Int32)).toUInt32.toUInt16.toUInt32.toInt32))] : List Int32).map (fun c => c.toInt8.toInt32))) (n := 2) g_b83 Z0 E_b83 F_b83_value F_b83_coder V_b84 (O2.ext OLD.2) hz rfl rfl (by decide) (by decide) (own_hp (by intro c hc; simp only [List.mem_cons, List.not_mem_nil, or_false] at hc; rcases hc with rfl | rfl <;> first | exact own_byte_nar hb0 | exact own_byte_nar (own_byte_and _))) rfl (by decide) (by decide)) (g := (mkF m 76 #[.val (.int p1), .val (.int ((p1 &&& (3 : Int32)) % (3 : Int32))), .val (.int c0), .val (.int ((((p1.toUInt32 >>> ((11 : Int32) &&& 31).toUInt32).toInt32) &&& (255 : Int32)).toUInt32.toUInt16.toUInt32.toInt32))] [(.ref b84), (.ref b83), (.ref b83)])) rfl (by rw [hml]; rfl) (Steps.refl _) (a := b83) (argsL := [(.ref b84)]) (rest := [(.ref b83)]) (lenOf pd_9 rfl) rfl (by show 2 * 0 + _ ≤ _; exact Nat.le_of_eq rfl) (hb hby d1_76) (fun _ _ => ⟨rfl, e89, (by decide : 2 + 1 ≤ _), (by decide : 6 + 2 ≤ _)⟩)
          dsimp only [Pt.U, Pt.locs, Pt.cells, Pt.slots] at X91 l91 y91 z91 st91 hQ91
          subst l91 y91 z91
          obtain ⟨rfl, Nq91, Kq91, nE91, nC91, tb91, kb91, g_tb91, szq_tb91, nx91, nV91, nA91⟩ := hQ91
          refine WP.tr st91 ?_
          clear st91
          replace NF := Fr.app NF Nq91
          obtain ⟨h91, e91⟩ : ∃ h, T91.heap = h := ⟨_, rfl⟩
          rw [e91] at Kq91 nE91 nC91 nV91 nA91
          have ne_b83_tb91 : b83 ≠ tb91 := Nat.ne_of_lt (Nat.lt_of_lt_of_le E_b83.lt szq_tb91)
          have ne_b84_tb91 : b84 ≠ tb91 := Nat.ne_of_lt (Nat.lt_of_lt_of_le V_b84.lt szq_tb91)
          have sz_tb91 : h0.size ≤ tb91 := Nat.le_trans KP.1 szq_tb91
          replace OLD := OLD.keep Kq91 (allS g_b83 all0)
          replace E_b83 := E_b83.keep Kq91
          clear F_b83_value
          clear F_b83_coder
          replace V_b84 := V_b84.keep Kq91 (by exact ninS (Ne.symm ne_b83_b84) (nin0))
          replace Z0 := Nat.le_trans Z0 Kq91.1
          replace W0 := Nat.le_trans W0 Kq91.1
          replace KP := KP.trans Kq91 (allS (Or.inr sz_b83) all0)
          clear E_b83
          have E_b83 := nE91
          clear nE91
          have F_b83_coder := nC91
          clear nC91
          have F_b83_value := nV91
          clear nV91
          have V_tb91 := nA91
          clear nA91 Kq91
          have hXN : ∃ LL, Stand p l e ({ frames := 4, cells := 4, slots := 8, locals := 66 } : Room) s m #[(.int p1)] below meth c T91 LL 3 8 ∧ Fr n0 LL := ⟨_, X91, NF⟩
          clear X91 NF
          obtain ⟨LL92, X91, NF⟩ := hXN
          show WP p.tables e below _ T91 (mkF m 79 #[.val (.int p1), .val (.int ((p1 &&& (3 : Int32)) % (3 : Int32))), .val (.int c0), .val (.int ((((p1.toUInt32 >>> ((11 : Int32) &&& 31).toUInt32).toInt32) &&& (255 : Int32)).toUInt32.toUInt16.toUInt32.toInt32))] [(.ref b83)])
          subst hG
          subst hsE
          obtain ⟨fs, hr, hrun, hended, hEW⟩ := X91.leaveW SI (Nat.le_trans W0 (Nat.le_of_eq (by rw [e91]))) (v := some (.ref b83)) (fun h => by rw [Bd.returns] at h; cases h)
          refine WP.fin ⟨_, _, ?_, hrun, hended, _, _, rfl, ?_, hEW.1, hEW.2.1, hEW.2.2.1, hEW.2.2.2.mono (by decide) (by decide)⟩
          · exact retOut X91 hx Bd.returns rfl (Or.inr (Or.inr (Or.inr (Or.inr ⟨rfl, rfl, rfl⟩)))) (hb hby d1_79) hr
          · show Q1 Z p1 gC h0 n0 _ T91.heap _ T91.vm
            rw [e91]
            exact ⟨b83, tb91, kb91, ([(nar .char c0), (nar .char ((((p1.toUInt32 >>> ((11 : Int32) &&& 31).toUInt32).toInt32) &&& (255 : Int32)).toUInt32.toUInt16.toUInt32.toInt32))] : List Int32), rfl, NF, KP, sz_b83, E_b83, (by first | exact F_b83_coder | (simpa using F_b83_coder) | (simp_all)), F_b83_value, V_tb91, (by intro c hc; simp only [List.mem_cons, List.not_mem_nil, or_false] at hc; rcases hc with rfl | rfl <;> first | exact own_byte_nar hb0 | exact own_byte_nar (own_byte_and _)), (by simp), (Or.inl (own_coldMv (s := s0.setVm vmw) IB0 X91.warmed))⟩
    refine WP.st (T' := s₁) (f' := (mkF m 9 #[.val (.int p1), .val (.int ((p1 &&& (3 : Int32)) % (3 : Int32))), .unset, .unset] [(.int (p1 &&& (4 : Int32)))])) (fun t k => ?_) ?_
    · refine XS.iloadN X0.here hx rfl (hb hby d1_6) rfl ?_
      show Steps p.tables e below (s₁.setTop (mkF m 7 #[.val (.int p1), .val (.int ((p1 &&& (3 : Int32)) % (3 : Int32))), .unset, .unset] [(.int p1)])) t
      refine XS.iconst X0.here hx rfl (hb hby d1_7) ?_
      show Steps p.tables e below (s₁.setTop (mkF m 8 #[.val (.int p1), .val (.int ((p1 &&& (3 : Int32)) % (3 : Int32))), .unset, .unset] [(.int (4 : Int32)), (.int p1)])) t
      refine XS.iand X0.here hx rfl (hb hby d1_8) rfl ?_
      exact k
    by_cases hc93 : (p1 &&& (4 : Int32)) = (0 : Int32)
    · skip
      refine WP.st (T' := s₁) (f' := (mkF m 25 #[.val (.int p1), .val (.int ((p1 &&& (3 : Int32)) % (3 : Int32))), .unset, .unset] [(.int ((((p1.toUInt32 >>> ((3 : Int32) &&& 31).toUInt32).toInt32) &&& (255 : Int32)).toUInt32.toUInt16.toUInt32.toInt32))])) (fun t k => ?_) ?_
      · refine XS.ifYes X0.here hx rfl (pc0 := 9) (pc' := 17) rfl (hb hby d1_9) rfl ((if0 _ _).trans (teq hc93).1) (by decide) (by decide) ?_
        show Steps p.tables e below (s₁.setTop (mkF m 17 #[.val (.int p1), .val (.int ((p1 &&& (3 : Int32)) % (3 : Int32))), .unset, .unset] [])) t
        refine XS.iloadN X0.here hx rfl (hb hby d1_17) rfl ?_
        show Steps p.tables e below (s₁.setTop (mkF m 18 #[.val (.int p1), .val (.int ((p1 &&& (3 : Int32)) % (3 : Int32))), .unset, .unset] [(.int p1)])) t
        refine XS.iconst X0.here hx rfl (hb hby d1_18) ?_
        show Steps p.tables e below (s₁.setTop (mkF m 19 #[.val (.int p1), .val (.int ((p1 &&& (3 : Int32)) % (3 : Int32))), .unset, .unset] [(.int (3 : Int32)), (.int p1)])) t
        refine XS.iushr X0.here hx rfl (hb hby d1_19) rfl ?_
        show Steps p.tables e below (s₁.setTop (mkF m 20 #[.val (.int p1), .val (.int ((p1 &&& (3 : Int32)) % (3 : Int32))), .unset, .unset] [(.int ((p1.toUInt32 >>> ((3 : Int32) &&& 31).toUInt32).toInt32))])) t
        refine XS.sipush X0.here hx rfl (hb hby d1_20) ?_
        show Steps p.tables e below (s₁.setTop (mkF m 23 #[.val (.int p1), .val (.int ((p1 &&& (3 : Int32)) % (3 : Int32))), .unset, .unset] [(.int (255 : Int32)), (.int ((p1.toUInt32 >>> ((3 : Int32) &&& 31).toUInt32).toInt32))])) t
        refine XS.iand X0.here hx rfl (hb hby d1_23) rfl ?_
        show Steps p.tables e below (s₁.setTop (mkF m 24 #[.val (.int p1), .val (.int ((p1 &&& (3 : Int32)) % (3 : Int32))), .unset, .unset] [(.int (((p1.toUInt32 >>> ((3 : Int32) &&& 31).toUInt32).toInt32) &&& (255 : Int32)))])) t
        refine XS.i2c X0.here hx rfl (hb hby d1_24) rfl ?_
        exact k
      exact J74 _ _  ((((p1.toUInt32 >>> ((3 : Int32) &&& 31).toUInt32).toInt32) &&& (255 : Int32)).toUInt32.toUInt16.toUInt32.toInt32) (ownWider X0 (by decide) (by decide)) e0 NF  (own_byte_and _)
    · skip
      refine WP.st (T' := s₁) (f' := (mkF m 25 #[.val (.int p1), .val (.int ((p1 &&& (3 : Int32)) % (3 : Int32))), .unset, .unset] [(.int (37 : Int32))])) (fun t k => ?_) ?_
      · refine XS.ifNo X0.here hx rfl (hb hby d1_9) rfl ((if0 _ _).trans (feq hc93).1) ?_
        show Steps p.tables e below (s₁.setTop (mkF m 12 #[.val (.int p1), .val (.int ((p1 &&& (3 : Int32)) % (3 : Int32))), .unset, .unset] [])) t
        refine XS.bipush X0.here hx rfl (hb hby d1_12) ?_
        show Steps p.tables e below (s₁.setTop (mkF m 14 #[.val (.int p1), .val (.int ((p1 &&& (3 : Int32)) % (3 : Int32))), .unset, .unset] [(.int (37 : Int32))])) t
        refine XS.goto X0.here hx rfl (pc0 := 14) (pc' := 25) rfl (hb hby d1_14) (by decide) (by decide) ?_
        exact k
      exact J74 _ _  (37 : Int32) (ownWider X0 (by decide) (by decide)) e0 NF  ⟨by decide, by decide, by decide⟩
  · skip
    have E_la73 := Em73.1
    have F_la73_coder := Em73.2.1
    have F_la73_value := Em73.2.2.1
    have V_lb73 := Em73.2.2.2
    refine WP.st (T' := s₁) (f' := (mkF m 6 #[.val (.int p1), .val (.int ((p1 &&& (3 : Int32)) % (3 : Int32))), .unset, .unset] [])) (fun t k => ?_) ?_
    · refine XS.iloadN X0.here hx rfl (hb hby d1_0) rfl ?_
      show Steps p.tables e below (s₁.setTop (mkF m 1 #[.val (.int p1), .unset, .unset, .unset] [(.int p1)])) t
      refine XS.iconst X0.here hx rfl (hb hby d1_1) ?_
      show Steps p.tables e below (s₁.setTop (mkF m 2 #[.val (.int p1), .unset, .unset, .unset] [(.int (3 : Int32)), (.int p1)])) t
      refine XS.iand X0.here hx rfl (hb hby d1_2) rfl ?_
      show Steps p.tables e below (s₁.setTop (mkF m 3 #[.val (.int p1), .unset, .unset, .unset] [(.int (p1 &&& (3 : Int32)))])) t
      refine XS.iconst X0.here hx rfl (hb hby d1_3) ?_
      show Steps p.tables e below (s₁.setTop (mkF m 4 #[.val (.int p1), .unset, .unset, .unset] [(.int (3 : Int32)), (.int (p1 &&& (3 : Int32)))])) t
      refine iremM X0 hx rfl (hb hby d1_4) rfl (by decide) ?_
      show Steps p.tables e below (s₁.setTop (mkF m 5 #[.val (.int p1), .unset, .unset, .unset] [(.int ((p1 &&& (3 : Int32)) % (3 : Int32)))])) t
      refine XS.istoreN X0.here hx rfl (hb hby d1_5) rfl (l' := #[.val (.int p1), .val (.int ((p1 &&& (3 : Int32)) % (3 : Int32))), .unset, .unset]) rfl ?_
      exact k
    have J94 : ∀ (Tj94 : State) (Lj94 : List Loc)  (c0 : Int32), Stand p l e ({ frames := 4, cells := 4, slots := 8, locals := 66 } : Room) s m #[(.int p1)] below meth c Tj94 Lj94 0 0 → Tj94.heap = h0 → Fr n0 Lj94 → (own_byte c0) → WP p.tables e below G Tj94 (mkF m 25 #[.val (.int p1), .val (.int ((p1 &&& (3 : Int32)) % (3 : Int32))), .unset, .unset] [(.int c0)]) := by
      clear NF
      intro Tj94 Lj94  c0 X94 ej94 NF hb0
      refine WP.st (T' := Tj94) (f' := (mkF m 37 #[.val (.int p1), .val (.int ((p1 &&& (3 : Int32)) % (3 : Int32))), .val (.int c0), .val (.int ((((p1.toUInt32 >>> ((11 : Int32) &&& 31).toUInt32).toInt32) &&& (255 : Int32)).toUInt32.toUInt16.toUInt32.toInt32))] [(.int ((p1 &&& (3 : Int32)) % (3 : Int32)))])) (fun t k => ?_) ?_
      · refine XS.istoreN X94.here hx rfl (hb hby d1_25) rfl (l' := #[.val (.int p1), .val (.int ((p1 &&& (3 : Int32)) % (3 : Int32))), .val (.int c0), .unset]) rfl ?_
        show Steps p.tables e below (Tj94.setTop (mkF m 26 #[.val (.int p1), .val (.int ((p1 &&& (3 : Int32)) % (3 : Int32))), .val (.int c0), .unset] [])) t
        refine XS.iloadN X94.here hx rfl (hb hby d1_26) rfl ?_
        show Steps p.tables e below (Tj94.setTop (mkF m 27 #[.val (.int p1), .val (.int ((p1 &&& (3 : Int32)) % (3 : Int32))), .val (.int c0), .unset] [(.int p1)])) t
        refine XS.bipush X94.here hx rfl (hb hby d1_27) ?_
        show Steps p.tables e below (Tj94.setTop (mkF m 29 #[.val (.int p1), .val (.int ((p1 &&& (3 : Int32)) % (3 : Int32))), .val (.int c0), .unset] [(.int (11 : Int32)), (.int p1)])) t
        refine XS.iushr X94.here hx rfl (hb hby d1_29) rfl ?_
        show Steps p.tables e below (Tj94.setTop (mkF m 30 #[.val (.int p1), .val (.int ((p1 &&& (3 : Int32)) % (3 : Int32))), .val (.int c0), .unset] [(.int ((p1.toUInt32 >>> ((11 : Int32) &&& 31).toUInt32).toInt32))])) t
        refine XS.sipush X94.here hx rfl (hb hby d1_30) ?_
        show Steps p.tables e below (Tj94.setTop (mkF m 33 #[.val (.int p1), .val (.int ((p1 &&& (3 : Int32)) % (3 : Int32))), .val (.int c0), .unset] [(.int (255 : Int32)), (.int ((p1.toUInt32 >>> ((11 : Int32) &&& 31).toUInt32).toInt32))])) t
        refine XS.iand X94.here hx rfl (hb hby d1_33) rfl ?_
        show Steps p.tables e below (Tj94.setTop (mkF m 34 #[.val (.int p1), .val (.int ((p1 &&& (3 : Int32)) % (3 : Int32))), .val (.int c0), .unset] [(.int (((p1.toUInt32 >>> ((11 : Int32) &&& 31).toUInt32).toInt32) &&& (255 : Int32)))])) t
        refine XS.i2c X94.here hx rfl (hb hby d1_34) rfl ?_
        show Steps p.tables e below (Tj94.setTop (mkF m 35 #[.val (.int p1), .val (.int ((p1 &&& (3 : Int32)) % (3 : Int32))), .val (.int c0), .unset] [(.int ((((p1.toUInt32 >>> ((11 : Int32) &&& 31).toUInt32).toInt32) &&& (255 : Int32)).toUInt32.toUInt16.toUInt32.toInt32))])) t
        refine XS.istoreN X94.here hx rfl (hb hby d1_35) rfl (l' := #[.val (.int p1), .val (.int ((p1 &&& (3 : Int32)) % (3 : Int32))), .val (.int c0), .val (.int ((((p1.toUInt32 >>> ((11 : Int32) &&& 31).toUInt32).toInt32) &&& (255 : Int32)).toUInt32.toUInt16.toUInt32.toInt32))]) rfl ?_
        show Steps p.tables e below (Tj94.setTop (mkF m 36 #[.val (.int p1), .val (.int ((p1 &&& (3 : Int32)) % (3 : Int32))), .val (.int c0), .val (.int ((((p1.toUInt32 >>> ((11 : Int32) &&& 31).toUInt32).toInt32) &&& (255 : Int32)).toUInt32.toUInt16.toUInt32.toInt32))] [])) t
        refine XS.iloadN X94.here hx rfl (hb hby d1_36) rfl ?_
        exact k
      by_cases hc95 : ((p1 &&& (3 : Int32)) % (3 : Int32)) = (0 : Int32)
      · skip
        refine WP.st (T' := Tj94) (f' := (mkF m 40 #[.val (.int p1), .val (.int ((p1 &&& (3 : Int32)) % (3 : Int32))), .val (.int c0), .val (.int ((((p1.toUInt32 >>> ((11 : Int32) &&& 31).toUInt32).toInt32) &&& (255 : Int32)).toUInt32.toUInt16.toUInt32.toInt32))] [])) (fun t k => ?_) ?_
        · refine XS.ifNo X94.here hx rfl (hb hby d1_37) rfl ((if0 _ _).trans (teq hc95).2) ?_
          exact k
        obtain ⟨T96, h96, X96, e96, E96, A96, D96, -, st96⟩ := newO X94 hx hZ hown (w_4 hw) (w_5 hw) (w_6 hw) ej94 (g := (mkF m 40 #[.val (.int p1), .val (.int ((p1 &&& (3 : Int32)) % (3 : Int32))), .val (.int c0), .val (.int ((((p1.toUInt32 >>> ((11 : Int32) &&& 31).toUInt32).toInt32) &&& (255 : Int32)).toUInt32.toUInt16.toUInt32.toInt32))] [])) rfl (hb hby d1_40) (by decide) (by decide)
        obtain ⟨b96, g96⟩ : ∃ z, z = h0.size := ⟨_, rfl⟩
        rw [← g96] at A96 D96 st96
        refine WP.st st96 ?_
        clear st96
        have ne_la73_b96 : la73 ≠ b96 := Nat.ne_of_lt (Nat.lt_of_lt_of_le E_la73.lt (Nat.le_of_eq g96.symm))
        have ne_lb73_b96 : lb73 ≠ b96 := Nat.ne_of_lt (Nat.lt_of_lt_of_le V_lb73.lt (Nat.le_of_eq g96.symm))
        have g_b96 : n0 ≤ b96 := Nat.le_trans Z0 (Nat.le_of_eq g96.symm)
        have sz_b96 : h0.size ≤ b96 := Nat.le_trans KP.1 (Nat.le_of_eq g96.symm)
        replace OLD := OLD.ext E96
        replace E_la73 := E_la73.ext E96
        replace F_la73_coder := F_la73_coder.ext E96
        replace F_la73_value := F_la73_value.ext E96
        replace V_lb73 := V_lb73.ext E96
        replace Z0 := Nat.le_trans Z0 E96.1
        replace W0 := Nat.le_trans W0 E96.1
        replace KP := KP.ext E96
        have E_b96 := A96
        have F_b96_value : Fld Z h96 b96 "java/lang/String" "value" "[B" .null := D96 (Or.inr (w_20 hw)) (ty := (.array .byte)) (by decide)
        have F_b96_coder : Fld Z h96 b96 "java/lang/String" "coder" "B" (.int (0 : Int32)) := D96 (Or.inr (w_21 hw)) (ty := .byte) (by decide)
        clear D96 A96
        show WP p.tables e below _ T96 (mkF m 43 #[.val (.int p1), .val (.int ((p1 &&& (3 : Int32)) % (3 : Int32))), .val (.int c0), .val (.int ((((p1.toUInt32 >>> ((11 : Int32) &&& 31).toUInt32).toInt32) &&& (255 : Int32)).toUInt32.toUInt16.toUInt32.toInt32))] [(.ref b96)])
        refine WP.st (T' := T96) (f' := (mkF m 45 #[.val (.int p1), .val (.int ((p1 &&& (3 : Int32)) % (3 : Int32))), .val (.int c0), .val (.int ((((p1.toUInt32 >>> ((11 : Int32) &&& 31).toUInt32).toInt32) &&& (255 : Int32)).toUInt32.toUInt16.toUInt32.toInt32))] [(.int (0 : Int32)), (.ref b96), (.ref b96)])) (fun t k => ?_) ?_
        · refine XS.dup X96.here hx rfl (hb hby d1_43) rfl rfl ?_
          show Steps p.tables e below (T96.setTop (mkF m 44 #[.val (.int p1), .val (.int ((p1 &&& (3 : Int32)) % (3 : Int32))), .val (.int c0), .val (.int ((((p1.toUInt32 >>> ((11 : Int32) &&& 31).toUInt32).toInt32) &&& (255 : Int32)).toUInt32.toUInt16.toUInt32.toInt32))] [(.ref b96), (.ref b96)])) t
          refine XS.iconst X96.here hx rfl (hb hby d1_44) ?_
          exact k
        obtain ⟨T97, h97, k97, X97, e97, E97, A97, st97⟩ := newP (aty := .char) X96 hx hZ (w_7 hw) e96 (g := (mkF m 45 #[.val (.int p1), .val (.int ((p1 &&& (3 : Int32)) % (3 : Int32))), .val (.int c0), .val (.int ((((p1.toUInt32 >>> ((11 : Int32) &&& 31).toUInt32).toInt32) &&& (255 : Int32)).toUInt32.toUInt16.toUInt32.toInt32))] [(.int (0 : Int32)), (.ref b96), (.ref b96)])) rfl (hb hby d1_45) rfl (by decide) (cap := 0) (by decide) (by decide) (by decide) (by decide)
        obtain ⟨b97, g97⟩ : ∃ z, z = h96.size := ⟨_, rfl⟩
        rw [← g97] at A97 st97
        refine WP.st st97 ?_
        clear st97
        have ne_la73_b97 : la73 ≠ b97 := Nat.ne_of_lt (Nat.lt_of_lt_of_le E_la73.lt (Nat.le_of_eq g97.symm))
        have ne_lb73_b97 : lb73 ≠ b97 := Nat.ne_of_lt (Nat.lt_of_lt_of_le V_lb73.lt (Nat.le_of_eq g97.symm))
        have ne_b96_b97 : b96 ≠ b97 := Nat.ne_of_lt (Nat.lt_of_lt_of_le E_b96.lt (Nat.le_of_eq g97.symm))
        have g_b97 : n0 ≤ b97 := Nat.le_trans Z0 (Nat.le_of_eq g97.symm)
        have sz_b97 : h0.size ≤ b97 := Nat.le_trans KP.1 (Nat.le_of_eq g97.symm)
        replace OLD := OLD.ext E97
        replace E_la73 := E_la73.ext E97
        replace F_la73_coder := F_la73_coder.ext E97
        replace F_la73_value := F_la73_value.ext E97
        replace V_lb73 := V_lb73.ext E97
        replace E_b96 := E_b96.ext E97
        replace F_b96_value := F_b96_value.ext E97
        replace F_b96_coder := F_b96_coder.ext E97
        replace Z0 := Nat.le_trans Z0 E97.1
        replace W0 := Nat.le_trans W0 E97.1
        replace KP := KP.ext E97
        have V_b97 : Arv Z h97 b97 k97 .char (0 : Int32) [] (.int (0 : Int32)) := (Arv.new A97 (by decide)).pad (pad_rep [] (.int (0 : Int32)) 0)
        show WP p.tables e below _ T97 (mkF m 47 #[.val (.int p1), .val (.int ((p1 &&& (3 : Int32)) % (3 : Int32))), .val (.int c0), .val (.int ((((p1.toUInt32 >>> ((11 : Int32) &&& 31).toUInt32).toInt32) &&& (255 : Int32)).toUInt32.toUInt16.toUInt32.toInt32))] [(.ref b97), (.ref b96), (.ref b96)])
        subst hsE
        obtain ⟨_, _, ⟨T98, L98, k98, n98⟩, -, X98, SJ98, gr98, ⟨Lc98, hQ98, l98, y98, z98⟩, st98⟩ := X97.specialBackS hx (y := (⟨"java/lang/String", "<init>", "([C)V"⟩ : MethodName)) rfl hown (mvT hZ (w_8 hw)) (mvT hZ (w_9 hw)) (mvT hZ (w_10 hw)) (by decide) (own_backOfJ (J := own_Hot Z la73) (W := 1) (rm2h l Z a0 hw [] b96 b97 k97 [] la73 lb73 lk73 h97 n0 Z0 E_b96 g_b96 F_b96_value F_b96_coder V_b97 E_la73 F_la73_coder F_la73_value V_lb73 OLD (hCH : Jvm.Lit.constHeld Z "java/lang/String" 7) (hCW : Jvm.Lit.compactW.before a0 Z = true)) hZ (fun _ q => own_hotMv (s := s0.setVm vmw) LT q) (w_10 hw) (w_6 hw) (by decide) (by decide)) (g := (mkF m 47 #[.val (.int p1), .val (.int ((p1 &&& (3 : Int32)) % (3 : Int32))), .val (.int c0), .val (.int ((((p1.toUInt32 >>> ((11 : Int32) &&& 31).toUInt32).toInt32) &&& (255 : Int32)).toUInt32.toUInt16.toUInt32.toInt32))] [(.ref b97), (.ref b96), (.ref b96)])) rfl (by rw [hml]; rfl) (Steps.refl _) (a := b96) (argsL := [(.ref b97)]) (rest := [(.ref b96)]) (lenOf pd_9 rfl) rfl (by show 2 * 0 + _ ≤ _; exact Nat.le_of_eq rfl) (hb hby d1_47) (fun _ _ => ⟨rfl, e97, (by decide : 2 + 0 ≤ _), (by decide : 4 + 0 ≤ _)⟩)
        dsimp only [Pt.U, Pt.locs, Pt.cells, Pt.slots] at X98 l98 y98 z98 st98 hQ98 SJ98 gr98
        subst l98 y98 z98
        have SI98 := foldS SI (T := T97) (Nat.le_trans W0 (Nat.le_of_eq (by rw [e97]))) SJ98 gr98
        have hZ98 := State.Warmed39.trans (t := s0.setVm vmw) hZ SJ98.1
        have hown98 : T98.vm.findClass "com/example/skope/skope/xml/IntakeReplacedUncountedPinLaw" = some m.cls := by rw [SJ98.1.alike.findClass]; exact hown
        obtain ⟨rfl, Nq98, Kq98, nE98_b96, nF98_b96_coder, nF98_b96_value, LT98⟩ := hQ98
        replace NF := Fr.app NF Nq98
        clear Nq98
        refine WP.tr st98 ?_
        clear st98
        obtain ⟨h98, e98⟩ : ∃ h, T98.heap = h := ⟨_, rfl⟩
        rw [e98] at Kq98 nE98_b96 nF98_b96_coder nF98_b96_value
        replace OLD := OLD.keep Kq98 (allS g_b96 all0)
        replace E_la73 := E_la73.keep Kq98
        replace F_la73_coder := F_la73_coder.keep Kq98 (by exact ninS ne_la73_b96 (nin0))
        replace F_la73_value := F_la73_value.keep Kq98 (by exact ninS ne_la73_b96 (nin0))
        replace V_lb73 := V_lb73.keep Kq98 (by exact ninS ne_lb73_b96 (nin0))
        replace E_b96 := E_b96.keep Kq98
        clear F_b96_value
        clear F_b96_coder
        replace V_b97 := V_b97.keep Kq98 (by exact ninS (Ne.symm ne_b96_b97) (nin0))
        replace Z0 := Nat.le_trans Z0 Kq98.1
        replace W0 := Nat.le_trans W0 Kq98.1
        replace KP := KP.trans Kq98 (allS (Or.inr sz_b96) all0)
        clear Kq98
        clear E_b96
        have E_b96 := nE98_b96
        clear nE98_b96
        have F_b96_coder := nF98_b96_coder
        clear nF98_b96_coder
        have F_b96_value := nF98_b96_value
        clear nF98_b96_value
        clear W0
        have W0 : T98.heap.size ≤ h98.size := Nat.le_of_eq (by rw [e98])
        clear hZ hown SI
        obtain ⟨vmw, hvw⟩ : ∃ z, z = T98.vm := ⟨_, rfl⟩
        replace hZ98 : Z.Warmed39 vmw := by rw [hvw]; exact hZ98
        replace hown98 : vmw.findClass "com/example/skope/skope/xml/IntakeReplacedUncountedPinLaw" = some m.cls := by rw [hvw]; exact hown98
        have SI := SI98
        clear SI98
        rw [← hvw] at SI
        have LT : own_Hot Z la73 vmw := by rw [hvw]; exact LT98
        clear LT98
        obtain ⟨s, hsE⟩ : ∃ z, z = s0.setVm vmw := ⟨_, rfl⟩
        have hX : ∃ LL, Stand p l e ({ frames := 4, cells := 4, slots := 8, locals := 66 } : Room) s m #[(.int p1)] below meth c T98 LL 2 4 ∧ Fr n0 LL := ⟨_, (by rw [hsE, hvw]; exact X98), NF⟩
        clear X98 NF
        obtain ⟨LL98, X98, NF⟩ := hX
        clear hvw
        have hZ : Z.Warmed39 s.vm := by rw [hsE]; exact hZ98
        have hown : s.vm.findClass "com/example/skope/skope/xml/IntakeReplacedUncountedPinLaw" = some m.cls := by rw [hsE]; exact hown98
        clear hZ98 hown98
        have hXN : ∃ LL, Stand p l e ({ frames := 4, cells := 4, slots := 8, locals := 66 } : Room) s m #[(.int p1)] below meth c T98 LL 2 4 ∧ Fr n0 LL := ⟨_, X98, NF⟩
        clear X98 NF
        obtain ⟨LL99, X98, NF⟩ := hXN
        show WP p.tables e below _ T98 (mkF m 50 #[.val (.int p1), .val (.int ((p1 &&& (3 : Int32)) % (3 : Int32))), .val (.int c0), .val (.int ((((p1.toUInt32 >>> ((11 : Int32) &&& 31).toUInt32).toInt32) &&& (255 : Int32)).toUInt32.toUInt16.toUInt32.toInt32))] [(.ref b96)])
        subst hG
        subst hsE
        obtain ⟨fs, hr, hrun, hended, hEW⟩ := X98.leaveW SI (Nat.le_trans W0 (Nat.le_of_eq (by rw [e98]))) (v := some (.ref b96)) (fun h => by rw [Bd.returns] at h; cases h)
        refine WP.fin ⟨_, _, ?_, hrun, hended, _, _, rfl, ?_, hEW.1, hEW.2.1, hEW.2.2.1, hEW.2.2.2.mono (by decide) (by decide)⟩
        · exact retOut X98 hx Bd.returns rfl (Or.inr (Or.inr (Or.inr (Or.inr ⟨rfl, rfl, rfl⟩)))) (hb hby d1_50) hr
        · show Q1 Z p1 gC h0 n0 _ T98.heap _ T98.vm
          rw [e98]
          exact ⟨b96, lb73, lk73, ([] : List Int32), rfl, NF, KP, sz_b96, E_b96, F_b96_coder, F_b96_value, V_lb73, (fun c hc => absurd hc (by simp)), (by simp), (Or.inr ⟨la73, lb73, lk73, own_hotMv (s := s0.setVm vmw) LT X98.warmed, E_la73, F_la73_coder, F_la73_value, V_lb73⟩)⟩
      · skip
        refine WP.st (T' := Tj94) (f' := (mkF m 53 #[.val (.int p1), .val (.int ((p1 &&& (3 : Int32)) % (3 : Int32))), .val (.int c0), .val (.int ((((p1.toUInt32 >>> ((11 : Int32) &&& 31).toUInt32).toInt32) &&& (255 : Int32)).toUInt32.toUInt16.toUInt32.toInt32))] [(.int (1 : Int32)), (.int ((p1 &&& (3 : Int32)) % (3 : Int32)))])) (fun t k => ?_) ?_
        · refine XS.ifYes X94.here hx rfl (pc0 := 37) (pc' := 51) rfl (hb hby d1_37) rfl ((if0 _ _).trans (feq hc95).2) (by decide) (by decide) ?_
          show Steps p.tables e below (Tj94.setTop (mkF m 51 #[.val (.int p1), .val (.int ((p1 &&& (3 : Int32)) % (3 : Int32))), .val (.int c0), .val (.int ((((p1.toUInt32 >>> ((11 : Int32) &&& 31).toUInt32).toInt32) &&& (255 : Int32)).toUInt32.toUInt16.toUInt32.toInt32))] [])) t
          refine XS.iloadN X94.here hx rfl (hb hby d1_51) rfl ?_
          show Steps p.tables e below (Tj94.setTop (mkF m 52 #[.val (.int p1), .val (.int ((p1 &&& (3 : Int32)) % (3 : Int32))), .val (.int c0), .val (.int ((((p1.toUInt32 >>> ((11 : Int32) &&& 31).toUInt32).toInt32) &&& (255 : Int32)).toUInt32.toUInt16.toUInt32.toInt32))] [(.int ((p1 &&& (3 : Int32)) % (3 : Int32)))])) t
          refine XS.iconst X94.here hx rfl (hb hby d1_52) ?_
          exact k
        by_cases hc100 : ((p1 &&& (3 : Int32)) % (3 : Int32)) = (1 : Int32)
        · skip
          refine WP.st (T' := Tj94) (f' := (mkF m 57 #[.val (.int p1), .val (.int ((p1 &&& (3 : Int32)) % (3 : Int32))), .val (.int c0), .val (.int ((((p1.toUInt32 >>> ((11 : Int32) &&& 31).toUInt32).toInt32) &&& (255 : Int32)).toUInt32.toUInt16.toUInt32.toInt32))] [(.int c0)])) (fun t k => ?_) ?_
          · refine XS.icmpNo X94.here hx rfl (hb hby d1_53) rfl (teq hc100).2 ?_
            show Steps p.tables e below (Tj94.setTop (mkF m 56 #[.val (.int p1), .val (.int ((p1 &&& (3 : Int32)) % (3 : Int32))), .val (.int c0), .val (.int ((((p1.toUInt32 >>> ((11 : Int32) &&& 31).toUInt32).toInt32) &&& (255 : Int32)).toUInt32.toUInt16.toUInt32.toInt32))] [])) t
            refine XS.iloadN X94.here hx rfl (hb hby d1_56) rfl ?_
            exact k
          obtain ⟨_, _, ⟨T101, L101, k101, n101⟩, -, X101, ⟨Lc101, hQ101, l101, y101, z101⟩, st101⟩ := Jvm.LawKit.callS X94 hx (y := (⟨"java/lang/String", "valueOf", "(C)Ljava/lang/String;"⟩ : MethodName)) hown (mvT hZ (w_110 hw)) (mvT hZ (w_111 hw)) (mvT hZ (w_6 hw)) (mvT hZ (w_112 hw)) (by decide) (backOf (W := 0) (rm18 l Z a0 hw [] c0 gC h0 n0 Z0 OLD (O2 : Sta Z Z.heap "java/lang/String" "COMPACT_STRINGS" "Z" (.int gC)) (hz : ¬ gC = (0 : Int32)) (hb0 : own_byte c0)) hZ (w_112 hw) (w_6 hw) (by decide) (by decide)) (g := (mkF m 57 #[.val (.int p1), .val (.int ((p1 &&& (3 : Int32)) % (3 : Int32))), .val (.int c0), .val (.int ((((p1.toUInt32 >>> ((11 : Int32) &&& 31).toUInt32).toInt32) &&& (255 : Int32)).toUInt32.toUInt16.toUInt32.toInt32))] [(.int c0)])) rfl (by rw [hml]; rfl) (argsL := [(.int c0)]) (rest := []) (lenOf pd_10 rfl) rfl (by show 2 * 0 + _ ≤ _; exact Nat.le_of_eq rfl) (hb hby d1_57) (fun _ _ => ⟨rfl, ej94, (by decide : 0 + 2 ≤ _), (by decide : 0 + 5 ≤ _)⟩)
          dsimp only [Pt.U, Pt.locs, Pt.cells, Pt.slots] at X101 l101 y101 z101 st101 hQ101
          subst l101 y101 z101
          obtain ⟨r_101, ta_101, kb_101, rfl, Nq101, Kq101, szq_r_101, nE101_r_101, nF101_r_101_coder, nF101_r_101_value, nA101_ta_101⟩ := hQ101
          replace NF := Fr.app NF Nq101
          clear Nq101
          refine WP.st st101 ?_
          clear st101
          obtain ⟨h101, e101⟩ : ∃ h, T101.heap = h := ⟨_, rfl⟩
          rw [e101] at Kq101 nE101_r_101 nF101_r_101_coder nF101_r_101_value nA101_ta_101
          have ne_la73_r_101 : la73 ≠ r_101 := Nat.ne_of_lt (Nat.lt_of_lt_of_le E_la73.lt szq_r_101)
          have ne_lb73_r_101 : lb73 ≠ r_101 := Nat.ne_of_lt (Nat.lt_of_lt_of_le V_lb73.lt szq_r_101)
          have sz_r_101 : h0.size ≤ r_101 := Nat.le_trans KP.1 szq_r_101
          replace OLD := OLD.keep Kq101 all0
          replace E_la73 := E_la73.keep Kq101
          replace F_la73_coder := F_la73_coder.keep Kq101 (by exact nin0)
          replace F_la73_value := F_la73_value.keep Kq101 (by exact nin0)
          replace V_lb73 := V_lb73.keep Kq101 (by exact nin0)
          replace Z0 := Nat.le_trans Z0 Kq101.1
          replace W0 := Nat.le_trans W0 Kq101.1
          replace KP := KP.trans Kq101 all0
          clear Kq101
          have E_r_101 := nE101_r_101
          clear nE101_r_101
          have F_r_101_coder := nF101_r_101_coder
          clear nF101_r_101_coder
          have F_r_101_value := nF101_r_101_value
          clear nF101_r_101_value
          have V_ta_101 := nA101_ta_101
          clear nA101_ta_101
          have hXN : ∃ LL, Stand p l e ({ frames := 4, cells := 4, slots := 8, locals := 66 } : Room) s m #[(.int p1)] below meth c T101 LL 2 5 ∧ Fr n0 LL := ⟨_, X101, NF⟩
          clear X101 NF
          obtain ⟨LL102, X101, NF⟩ := hXN
          show WP p.tables e below _ T101 (mkF m 60 #[.val (.int p1), .val (.int ((p1 &&& (3 : Int32)) % (3 : Int32))), .val (.int c0), .val (.int ((((p1.toUInt32 >>> ((11 : Int32) &&& 31).toUInt32).toInt32) &&& (255 : Int32)).toUInt32.toUInt16.toUInt32.toInt32))] [(.ref r_101)])
          subst hG
          subst hsE
          obtain ⟨fs, hr, hrun, hended, hEW⟩ := X101.leaveW SI (Nat.le_trans W0 (Nat.le_of_eq (by rw [e101]))) (v := some (.ref r_101)) (fun h => by rw [Bd.returns] at h; cases h)
          refine WP.fin ⟨_, _, ?_, hrun, hended, _, _, rfl, ?_, hEW.1, hEW.2.1, hEW.2.2.1, hEW.2.2.2.mono (by decide) (by decide)⟩
          · exact retOut X101 hx Bd.returns rfl (Or.inr (Or.inr (Or.inr (Or.inr ⟨rfl, rfl, rfl⟩)))) (hb hby d1_60) hr
          · show Q1 Z p1 gC h0 n0 _ T101.heap _ T101.vm
            rw [e101]
            exact ⟨r_101, ta_101, kb_101, [c0], rfl, NF, KP, sz_r_101, E_r_101, F_r_101_coder, F_r_101_value, V_ta_101, (fun c hc => (List.mem_singleton.mp hc) ▸ hb0), (by simp), (Or.inr ⟨la73, lb73, lk73, own_hotMv (s := s0.setVm vmw) LT X101.warmed, E_la73, F_la73_coder, F_la73_value, V_lb73⟩)⟩
        · skip
          refine WP.st (T' := Tj94) (f' := (mkF m 61 #[.val (.int p1), .val (.int ((p1 &&& (3 : Int32)) % (3 : Int32))), .val (.int c0), .val (.int ((((p1.toUInt32 >>> ((11 : Int32) &&& 31).toUInt32).toInt32) &&& (255 : Int32)).toUInt32.toUInt16.toUInt32.toInt32))] [])) (fun t k => ?_) ?_
          · refine XS.icmpYes X94.here hx rfl (pc0 := 53) (pc' := 61) rfl (hb hby d1_53) rfl (feq hc100).2 (by decide) (by decide) ?_
            exact k
          obtain ⟨T103, h103, X103, e103, E103, A103, D103, -, st103⟩ := newO X94 hx hZ hown (w_4 hw) (w_5 hw) (w_6 hw) ej94 (g := (mkF m 61 #[.val (.int p1), .val (.int ((p1 &&& (3 : Int32)) % (3 : Int32))), .val (.int c0), .val (.int ((((p1.toUInt32 >>> ((11 : Int32) &&& 31).toUInt32).toInt32) &&& (255 : Int32)).toUInt32.toUInt16.toUInt32.toInt32))] [])) rfl (hb hby d1_61) (by decide) (by decide)
          obtain ⟨b103, g103⟩ : ∃ z, z = h0.size := ⟨_, rfl⟩
          rw [← g103] at A103 D103 st103
          refine WP.st st103 ?_
          clear st103
          have ne_la73_b103 : la73 ≠ b103 := Nat.ne_of_lt (Nat.lt_of_lt_of_le E_la73.lt (Nat.le_of_eq g103.symm))
          have ne_lb73_b103 : lb73 ≠ b103 := Nat.ne_of_lt (Nat.lt_of_lt_of_le V_lb73.lt (Nat.le_of_eq g103.symm))
          have g_b103 : n0 ≤ b103 := Nat.le_trans Z0 (Nat.le_of_eq g103.symm)
          have sz_b103 : h0.size ≤ b103 := Nat.le_trans KP.1 (Nat.le_of_eq g103.symm)
          replace OLD := OLD.ext E103
          replace E_la73 := E_la73.ext E103
          replace F_la73_coder := F_la73_coder.ext E103
          replace F_la73_value := F_la73_value.ext E103
          replace V_lb73 := V_lb73.ext E103
          replace Z0 := Nat.le_trans Z0 E103.1
          replace W0 := Nat.le_trans W0 E103.1
          replace KP := KP.ext E103
          have E_b103 := A103
          have F_b103_value : Fld Z h103 b103 "java/lang/String" "value" "[B" .null := D103 (Or.inr (w_20 hw)) (ty := (.array .byte)) (by decide)
          have F_b103_coder : Fld Z h103 b103 "java/lang/String" "coder" "B" (.int (0 : Int32)) := D103 (Or.inr (w_21 hw)) (ty := .byte) (by decide)
          clear D103 A103
          show WP p.tables e below _ T103 (mkF m 64 #[.val (.int p1), .val (.int ((p1 &&& (3 : Int32)) % (3 : Int32))), .val (.int c0), .val (.int ((((p1.toUInt32 >>> ((11 : Int32) &&& 31).toUInt32).toInt32) &&& (255 : Int32)).toUInt32.toUInt16.toUInt32.toInt32))] [(.ref b103)])
          refine WP.st (T' := T103) (f' := (mkF m 66 #[.val (.int p1), .val (.int ((p1 &&& (3 : Int32)) % (3 : Int32))), .val (.int c0), .val (.int ((((p1.toUInt32 >>> ((11 : Int32) &&& 31).toUInt32).toInt32) &&& (255 : Int32)).toUInt32.toUInt16.toUInt32.toInt32))] [(.int (2 : Int32)), (.ref b103), (.ref b103)])) (fun t k => ?_) ?_
          · refine XS.dup X103.here hx rfl (hb hby d1_64) rfl rfl ?_
            show Steps p.tables e below (T103.setTop (mkF m 65 #[.val (.int p1), .val (.int ((p1 &&& (3 : Int32)) % (3 : Int32))), .val (.int c0), .val (.int ((((p1.toUInt32 >>> ((11 : Int32) &&& 31).toUInt32).toInt32) &&& (255 : Int32)).toUInt32.toUInt16.toUInt32.toInt32))] [(.ref b103), (.ref b103)])) t
            refine XS.iconst X103.here hx rfl (hb hby d1_65) ?_
            exact k
          obtain ⟨T104, h104, k104, X104, e104, E104, A104, st104⟩ := newP (aty := .char) X103 hx hZ (w_7 hw) e103 (g := (mkF m 66 #[.val (.int p1), .val (.int ((p1 &&& (3 : Int32)) % (3 : Int32))), .val (.int c0), .val (.int ((((p1.toUInt32 >>> ((11 : Int32) &&& 31).toUInt32).toInt32) &&& (255 : Int32)).toUInt32.toUInt16.toUInt32.toInt32))] [(.int (2 : Int32)), (.ref b103), (.ref b103)])) rfl (hb hby d1_66) rfl (by decide) (cap := 2) (by decide) (by decide) (by decide) (by decide)
          obtain ⟨b104, g104⟩ : ∃ z, z = h103.size := ⟨_, rfl⟩
          rw [← g104] at A104 st104
          refine WP.st st104 ?_
          clear st104
          have ne_la73_b104 : la73 ≠ b104 := Nat.ne_of_lt (Nat.lt_of_lt_of_le E_la73.lt (Nat.le_of_eq g104.symm))
          have ne_lb73_b104 : lb73 ≠ b104 := Nat.ne_of_lt (Nat.lt_of_lt_of_le V_lb73.lt (Nat.le_of_eq g104.symm))
          have ne_b103_b104 : b103 ≠ b104 := Nat.ne_of_lt (Nat.lt_of_lt_of_le E_b103.lt (Nat.le_of_eq g104.symm))
          have g_b104 : n0 ≤ b104 := Nat.le_trans Z0 (Nat.le_of_eq g104.symm)
          have sz_b104 : h0.size ≤ b104 := Nat.le_trans KP.1 (Nat.le_of_eq g104.symm)
          replace OLD := OLD.ext E104
          replace E_la73 := E_la73.ext E104
          replace F_la73_coder := F_la73_coder.ext E104
          replace F_la73_value := F_la73_value.ext E104
          replace V_lb73 := V_lb73.ext E104
          replace E_b103 := E_b103.ext E104
          replace F_b103_value := F_b103_value.ext E104
          replace F_b103_coder := F_b103_coder.ext E104
          replace Z0 := Nat.le_trans Z0 E104.1
          replace W0 := Nat.le_trans W0 E104.1
          replace KP := KP.ext E104
          have V_b104 : Arv Z h104 b104 k104 .char (2 : Int32) [(.int (0 : Int32)), (.int (0 : Int32))] (.int (0 : Int32)) := (Arv.new A104 (by decide)).pad (pad_rep [] (.int (0 : Int32)) 2)
          show WP p.tables e below _ T104 (mkF m 68 #[.val (.int p1), .val (.int ((p1 &&& (3 : Int32)) % (3 : Int32))), .val (.int c0), .val (.int ((((p1.toUInt32 >>> ((11 : Int32) &&& 31).toUInt32).toInt32) &&& (255 : Int32)).toUInt32.toUInt16.toUInt32.toInt32))] [(.ref b104), (.ref b103), (.ref b103)])
          refine WP.st (T' := T104) (f' := (mkF m 71 #[.val (.int p1), .val (.int ((p1 &&& (3 : Int32)) % (3 : Int32))), .val (.int c0), .val (.int ((((p1.toUInt32 >>> ((11 : Int32) &&& 31).toUInt32).toInt32) &&& (255 : Int32)).toUInt32.toUInt16.toUInt32.toInt32))] [(.int c0), (.int (0 : Int32)), (.ref b104), (.ref b104), (.ref b103), (.ref b103)])) (fun t k => ?_) ?_
          · refine XS.dup X104.here hx rfl (hb hby d1_68) rfl rfl ?_
            show Steps p.tables e below (T104.setTop (mkF m 69 #[.val (.int p1), .val (.int ((p1 &&& (3 : Int32)) % (3 : Int32))), .val (.int c0), .val (.int ((((p1.toUInt32 >>> ((11 : Int32) &&& 31).toUInt32).toInt32) &&& (255 : Int32)).toUInt32.toUInt16.toUInt32.toInt32))] [(.ref b104), (.ref b104), (.ref b103), (.ref b103)])) t
            refine XS.iconst X104.here hx rfl (hb hby d1_69) ?_
            show Steps p.tables e below (T104.setTop (mkF m 70 #[.val (.int p1), .val (.int ((p1 &&& (3 : Int32)) % (3 : Int32))), .val (.int c0), .val (.int ((((p1.toUInt32 >>> ((11 : Int32) &&& 31).toUInt32).toInt32) &&& (255 : Int32)).toUInt32.toUInt16.toUInt32.toInt32))] [(.int (0 : Int32)), (.ref b104), (.ref b104), (.ref b103), (.ref b103)])) t
            refine XS.iloadN X104.here hx rfl (hb hby d1_70) rfl ?_
            exact k
          obtain ⟨cl105, Ar105, q105, S105, N105, H105, G105⟩ := V_b104
          have hin105 : ¬ ((0 : Int32) < 0 ∨ cl105.slots.size ≤ ((0 : Int32)).toNatClampNeg) := inb_of S105 ⟨by decide, by decide⟩
          obtain ⟨T106, h106, X106, e106, W106, st106⟩ := stC X104 hx hZ e104 Ar105 (j := (0 : Int32)) hin105 (g := (mkF m 71 #[.val (.int p1), .val (.int ((p1 &&& (3 : Int32)) % (3 : Int32))), .val (.int c0), .val (.int ((((p1.toUInt32 >>> ((11 : Int32) &&& 31).toUInt32).toInt32) &&& (255 : Int32)).toUInt32.toUInt16.toUInt32.toInt32))] [(.int c0), (.int (0 : Int32)), (.ref b104), (.ref b104), (.ref b103), (.ref b103)])) rfl rfl (hb hby d1_71)
          refine WP.st st106 ?_
          clear st106
          have Vn : Arv Z h106 b104 k104 .char (2 : Int32) [(.int (nar .char c0)), (.int (0 : Int32))] (.int (0 : Int32)) := Arv.set Ar105 q105 S105 N105 H105 G105 (fits_nar_char _) W106 0 rfl (Nat.le_of_ble_eq_true rfl)
          replace OLD := OLD.wr W106 g_b104
          replace E_la73 := E_la73.wr W106
          replace F_la73_coder := F_la73_coder.other W106 (Or.inl ne_la73_b104)
          replace F_la73_value := F_la73_value.other W106 (Or.inl ne_la73_b104)
          replace V_lb73 := V_lb73.other W106 ne_lb73_b104
          replace E_b103 := E_b103.wr W106
          replace F_b103_value := F_b103_value.other W106 (Or.inl ne_b103_b104)
          replace F_b103_coder := F_b103_coder.other W106 (Or.inl ne_b103_b104)
          replace Z0 := Nat.le_trans Z0 (Keep.of_wr W106).1
          replace W0 := Nat.le_trans W0 (Keep.of_wr W106).1
          replace KP := KP.wr W106 (Or.inr sz_b104)
          replace V_b104 := Vn
          replace NF := Fr.snoc X106 NF g_b104
          clear W106 hin105 q105 S105 N105 H105 G105 Ar105
          have hXN : ∃ LL, Stand p l e ({ frames := 4, cells := 4, slots := 8, locals := 66 } : Room) s m #[(.int p1)] below meth c T106 LL 2 6 ∧ Fr n0 LL := ⟨_, X106, NF⟩
          clear X106 NF
          obtain ⟨LL107, X106, NF⟩ := hXN
          show WP p.tables e below _ T106 (mkF m 72 #[.val (.int p1), .val (.int ((p1 &&& (3 : Int32)) % (3 : Int32))), .val (.int c0), .val (.int ((((p1.toUInt32 >>> ((11 : Int32) &&& 31).toUInt32).toInt32) &&& (255 : Int32)).toUInt32.toUInt16.toUInt32.toInt32))] [(.ref b104), (.ref b103), (.ref b103)])
          refine WP.st (T' := T106) (f' := (mkF m 75 #[.val (.int p1), .val (.int ((p1 &&& (3 : Int32)) % (3 : Int32))), .val (.int c0), .val (.int ((((p1.toUInt32 >>> ((11 : Int32) &&& 31).toUInt32).toInt32) &&& (255 : Int32)).toUInt32.toUInt16.toUInt32.toInt32))] [(.int ((((p1.toUInt32 >>> ((11 : Int32) &&& 31).toUInt32).toInt32) &&& (255 : Int32)).toUInt32.toUInt16.toUInt32.toInt32)), (.int (1 : Int32)), (.ref b104), (.ref b104), (.ref b103), (.ref b103)])) (fun t k => ?_) ?_
          · refine XS.dup X106.here hx rfl (hb hby d1_72) rfl rfl ?_
            show Steps p.tables e below (T106.setTop (mkF m 73 #[.val (.int p1), .val (.int ((p1 &&& (3 : Int32)) % (3 : Int32))), .val (.int c0), .val (.int ((((p1.toUInt32 >>> ((11 : Int32) &&& 31).toUInt32).toInt32) &&& (255 : Int32)).toUInt32.toUInt16.toUInt32.toInt32))] [(.ref b104), (.ref b104), (.ref b103), (.ref b103)])) t
            refine XS.iconst X106.here hx rfl (hb hby d1_73) ?_
            show Steps p.tables e below (T106.setTop (mkF m 74 #[.val (.int p1), .val (.int ((p1 &&& (3 : Int32)) % (3 : Int32))), .val (.int c0), .val (.int ((((p1.toUInt32 >>> ((11 : Int32) &&& 31).toUInt32).toInt32) &&& (255 : Int32)).toUInt32.toUInt16.toUInt32.toInt32))] [(.int (1 : Int32)), (.ref b104), (.ref b104), (.ref b103), (.ref b103)])) t
            refine XS.iloadN X106.here hx rfl (hb hby d1_74) rfl ?_
            exact k
          obtain ⟨cl108, Ar108, q108, S108, N108, H108, G108⟩ := V_b104
          have hin108 : ¬ ((1 : Int32) < 0 ∨ cl108.slots.size ≤ ((1 : Int32)).toNatClampNeg) := inb_of S108 ⟨by decide, by decide⟩
          obtain ⟨T109, h109, X109, e109, W109, st109⟩ := stC X106 hx hZ e106 Ar108 (j := (1 : Int32)) hin108 (g := (mkF m 75 #[.val (.int p1), .val (.int ((p1 &&& (3 : Int32)) % (3 : Int32))), .val (.int c0), .val (.int ((((p1.toUInt32 >>> ((11 : Int32) &&& 31).toUInt32).toInt32) &&& (255 : Int32)).toUInt32.toUInt16.toUInt32.toInt32))] [(.int ((((p1.toUInt32 >>> ((11 : Int32) &&& 31).toUInt32).toInt32) &&& (255 : Int32)).toUInt32.toUInt16.toUInt32.toInt32)), (.int (1 : Int32)), (.ref b104), (.ref b104), (.ref b103), (.ref b103)])) rfl rfl (hb hby d1_75)
          refine WP.st st109 ?_
          clear st109
          have Vn : Arv Z h109 b104 k104 .char (2 : Int32) [(.int (nar .char c0)), (.int (nar .char ((((p1.toUInt32 >>> ((11 : Int32) &&& 31).toUInt32).toInt32) &&& (255 : Int32)).toUInt32.toUInt16.toUInt32.toInt32)))] (.int (0 : Int32)) := Arv.set Ar108 q108 S108 N108 H108 G108 (fits_nar_char _) W109 1 rfl (Nat.le_of_ble_eq_true rfl)
          replace OLD := OLD.wr W109 g_b104
          replace E_la73 := E_la73.wr W109
          replace F_la73_coder := F_la73_coder.other W109 (Or.inl ne_la73_b104)
          replace F_la73_value := F_la73_value.other W109 (Or.inl ne_la73_b104)
          replace V_lb73 := V_lb73.other W109 ne_lb73_b104
          replace E_b103 := E_b103.wr W109
          replace F_b103_value := F_b103_value.other W109 (Or.inl ne_b103_b104)
          replace F_b103_coder := F_b103_coder.other W109 (Or.inl ne_b103_b104)
          replace Z0 := Nat.le_trans Z0 (Keep.of_wr W109).1
          replace W0 := Nat.le_trans W0 (Keep.of_wr W109).1
          replace KP := KP.wr W109 (Or.inr sz_b104)
          replace V_b104 := Vn
          replace NF := Fr.snoc X109 NF g_b104
          clear W109 hin108 q108 S108 N108 H108 G108 Ar108
          have hXN : ∃ LL, Stand p l e ({ frames := 4, cells := 4, slots := 8, locals := 66 } : Room) s m #[(.int p1)] below meth c T109 LL 2 6 ∧ Fr n0 LL := ⟨_, X109, NF⟩
          clear X109 NF
          obtain ⟨LL110, X109, NF⟩ := hXN
          show WP p.tables e below _ T109 (mkF m 76 #[.val (.int p1), .val (.int ((p1 &&& (3 : Int32)) % (3 : Int32))), .val (.int c0), .val (.int ((((p1.toUInt32 >>> ((11 : Int32) &&& 31).toUInt32).toInt32) &&& (255 : Int32)).toUInt32.toUInt16.toUInt32.toInt32))] [(.ref b104), (.ref b103), (.ref b103)])
          obtain ⟨_, _, ⟨T111, L111, k111, n111⟩, -, X111, ⟨Lc111, hQ111, l111, y111, z111⟩, st111⟩ := X109.specialBack hx (y := (⟨"java/lang/String", "<init>", "([C)V"⟩ : MethodName)) rfl hown (mvT hZ (w_8 hw)) (mvT hZ (w_9 hw)) (mvT hZ (w_10 hw)) (by decide) (StrChars.Road.backV (W := 1) hZ (own_ws hw) (kI := 4) (w_5 hw) (cs := ([(nar .char c0), (nar .char ((((p1.toUInt32 >>> ((11 : Int32) &&& 31).toUInt32).toInt32) &&& (255 : Int32)).toUInt32.toUInt16.toUInt32.toInt32))] : List Int32)) (bs := (([(nar .char c0), (nar .char ((((p1.toUInt32 >>> ((11 : Int32) &&& 31).toUInt32).toInt32) &&& (255 : Int32)).toUInt32.toUInt16.toUInt32.toInt32))] : List Int32).map (fun c => c.toInt8.toInt32))) (n := 2) g_b103 Z0 E_b103 F_b103_value F_b103_coder V_b104 (O2.ext OLD.2) hz rfl rfl (by decide) (by decide) (own_hp (by intro c hc; simp only [List.mem_cons, List.not_mem_nil, or_false] at hc; rcases hc with rfl | rfl <;> first | exact own_byte_nar hb0 | exact own_byte_nar (own_byte_and _))) rfl (by decide) (by decide)) (g := (mkF m 76 #[.val (.int p1), .val (.int ((p1 &&& (3 : Int32)) % (3 : Int32))), .val (.int c0), .val (.int ((((p1.toUInt32 >>> ((11 : Int32) &&& 31).toUInt32).toInt32) &&& (255 : Int32)).toUInt32.toUInt16.toUInt32.toInt32))] [(.ref b104), (.ref b103), (.ref b103)])) rfl (by rw [hml]; rfl) (Steps.refl _) (a := b103) (argsL := [(.ref b104)]) (rest := [(.ref b103)]) (lenOf pd_9 rfl) rfl (by show 2 * 0 + _ ≤ _; exact Nat.le_of_eq rfl) (hb hby d1_76) (fun _ _ => ⟨rfl, e109, (by decide : 2 + 1 ≤ _), (by decide : 6 + 2 ≤ _)⟩)
          dsimp only [Pt.U, Pt.locs, Pt.cells, Pt.slots] at X111 l111 y111 z111 st111 hQ111
          subst l111 y111 z111
          obtain ⟨rfl, Nq111, Kq111, nE111, nC111, tb111, kb111, g_tb111, szq_tb111, nx111, nV111, nA111⟩ := hQ111
          refine WP.tr st111 ?_
          clear st111
          replace NF := Fr.app NF Nq111
          obtain ⟨h111, e111⟩ : ∃ h, T111.heap = h := ⟨_, rfl⟩
          rw [e111] at Kq111 nE111 nC111 nV111 nA111
          have ne_la73_tb111 : la73 ≠ tb111 := Nat.ne_of_lt (Nat.lt_of_lt_of_le E_la73.lt szq_tb111)
          have ne_lb73_tb111 : lb73 ≠ tb111 := Nat.ne_of_lt (Nat.lt_of_lt_of_le V_lb73.lt szq_tb111)
          have ne_b103_tb111 : b103 ≠ tb111 := Nat.ne_of_lt (Nat.lt_of_lt_of_le E_b103.lt szq_tb111)
          have ne_b104_tb111 : b104 ≠ tb111 := Nat.ne_of_lt (Nat.lt_of_lt_of_le V_b104.lt szq_tb111)
          have sz_tb111 : h0.size ≤ tb111 := Nat.le_trans KP.1 szq_tb111
          replace OLD := OLD.keep Kq111 (allS g_b103 all0)
          replace E_la73 := E_la73.keep Kq111
          replace F_la73_coder := F_la73_coder.keep Kq111 (by exact ninS ne_la73_b103 (nin0))
          replace F_la73_value := F_la73_value.keep Kq111 (by exact ninS ne_la73_b103 (nin0))
          replace V_lb73 := V_lb73.keep Kq111 (by exact ninS ne_lb73_b103 (nin0))
          replace E_b103 := E_b103.keep Kq111
          clear F_b103_value
          clear F_b103_coder
          replace V_b104 := V_b104.keep Kq111 (by exact ninS (Ne.symm ne_b103_b104) (nin0))
          replace Z0 := Nat.le_trans Z0 Kq111.1
          replace W0 := Nat.le_trans W0 Kq111.1
          replace KP := KP.trans Kq111 (allS (Or.inr sz_b103) all0)
          clear E_b103
          have E_b103 := nE111
          clear nE111
          have F_b103_coder := nC111
          clear nC111
          have F_b103_value := nV111
          clear nV111
          have V_tb111 := nA111
          clear nA111 Kq111
          have hXN : ∃ LL, Stand p l e ({ frames := 4, cells := 4, slots := 8, locals := 66 } : Room) s m #[(.int p1)] below meth c T111 LL 3 8 ∧ Fr n0 LL := ⟨_, X111, NF⟩
          clear X111 NF
          obtain ⟨LL112, X111, NF⟩ := hXN
          show WP p.tables e below _ T111 (mkF m 79 #[.val (.int p1), .val (.int ((p1 &&& (3 : Int32)) % (3 : Int32))), .val (.int c0), .val (.int ((((p1.toUInt32 >>> ((11 : Int32) &&& 31).toUInt32).toInt32) &&& (255 : Int32)).toUInt32.toUInt16.toUInt32.toInt32))] [(.ref b103)])
          subst hG
          subst hsE
          obtain ⟨fs, hr, hrun, hended, hEW⟩ := X111.leaveW SI (Nat.le_trans W0 (Nat.le_of_eq (by rw [e111]))) (v := some (.ref b103)) (fun h => by rw [Bd.returns] at h; cases h)
          refine WP.fin ⟨_, _, ?_, hrun, hended, _, _, rfl, ?_, hEW.1, hEW.2.1, hEW.2.2.1, hEW.2.2.2.mono (by decide) (by decide)⟩
          · exact retOut X111 hx Bd.returns rfl (Or.inr (Or.inr (Or.inr (Or.inr ⟨rfl, rfl, rfl⟩)))) (hb hby d1_79) hr
          · show Q1 Z p1 gC h0 n0 _ T111.heap _ T111.vm
            rw [e111]
            exact ⟨b103, tb111, kb111, ([(nar .char c0), (nar .char ((((p1.toUInt32 >>> ((11 : Int32) &&& 31).toUInt32).toInt32) &&& (255 : Int32)).toUInt32.toUInt16.toUInt32.toInt32))] : List Int32), rfl, NF, KP, sz_b103, E_b103, (by first | exact F_b103_coder | (simpa using F_b103_coder) | (simp_all)), F_b103_value, V_tb111, (by intro c hc; simp only [List.mem_cons, List.not_mem_nil, or_false] at hc; rcases hc with rfl | rfl <;> first | exact own_byte_nar hb0 | exact own_byte_nar (own_byte_and _)), (by simp), (Or.inr ⟨la73, lb73, lk73, own_hotMv (s := s0.setVm vmw) LT X111.warmed, E_la73, F_la73_coder, F_la73_value, V_lb73⟩)⟩
    refine WP.st (T' := s₁) (f' := (mkF m 9 #[.val (.int p1), .val (.int ((p1 &&& (3 : Int32)) % (3 : Int32))), .unset, .unset] [(.int (p1 &&& (4 : Int32)))])) (fun t k => ?_) ?_
    · refine XS.iloadN X0.here hx rfl (hb hby d1_6) rfl ?_
      show Steps p.tables e below (s₁.setTop (mkF m 7 #[.val (.int p1), .val (.int ((p1 &&& (3 : Int32)) % (3 : Int32))), .unset, .unset] [(.int p1)])) t
      refine XS.iconst X0.here hx rfl (hb hby d1_7) ?_
      show Steps p.tables e below (s₁.setTop (mkF m 8 #[.val (.int p1), .val (.int ((p1 &&& (3 : Int32)) % (3 : Int32))), .unset, .unset] [(.int (4 : Int32)), (.int p1)])) t
      refine XS.iand X0.here hx rfl (hb hby d1_8) rfl ?_
      exact k
    by_cases hc113 : (p1 &&& (4 : Int32)) = (0 : Int32)
    · skip
      refine WP.st (T' := s₁) (f' := (mkF m 25 #[.val (.int p1), .val (.int ((p1 &&& (3 : Int32)) % (3 : Int32))), .unset, .unset] [(.int ((((p1.toUInt32 >>> ((3 : Int32) &&& 31).toUInt32).toInt32) &&& (255 : Int32)).toUInt32.toUInt16.toUInt32.toInt32))])) (fun t k => ?_) ?_
      · refine XS.ifYes X0.here hx rfl (pc0 := 9) (pc' := 17) rfl (hb hby d1_9) rfl ((if0 _ _).trans (teq hc113).1) (by decide) (by decide) ?_
        show Steps p.tables e below (s₁.setTop (mkF m 17 #[.val (.int p1), .val (.int ((p1 &&& (3 : Int32)) % (3 : Int32))), .unset, .unset] [])) t
        refine XS.iloadN X0.here hx rfl (hb hby d1_17) rfl ?_
        show Steps p.tables e below (s₁.setTop (mkF m 18 #[.val (.int p1), .val (.int ((p1 &&& (3 : Int32)) % (3 : Int32))), .unset, .unset] [(.int p1)])) t
        refine XS.iconst X0.here hx rfl (hb hby d1_18) ?_
        show Steps p.tables e below (s₁.setTop (mkF m 19 #[.val (.int p1), .val (.int ((p1 &&& (3 : Int32)) % (3 : Int32))), .unset, .unset] [(.int (3 : Int32)), (.int p1)])) t
        refine XS.iushr X0.here hx rfl (hb hby d1_19) rfl ?_
        show Steps p.tables e below (s₁.setTop (mkF m 20 #[.val (.int p1), .val (.int ((p1 &&& (3 : Int32)) % (3 : Int32))), .unset, .unset] [(.int ((p1.toUInt32 >>> ((3 : Int32) &&& 31).toUInt32).toInt32))])) t
        refine XS.sipush X0.here hx rfl (hb hby d1_20) ?_
        show Steps p.tables e below (s₁.setTop (mkF m 23 #[.val (.int p1), .val (.int ((p1 &&& (3 : Int32)) % (3 : Int32))), .unset, .unset] [(.int (255 : Int32)), (.int ((p1.toUInt32 >>> ((3 : Int32) &&& 31).toUInt32).toInt32))])) t
        refine XS.iand X0.here hx rfl (hb hby d1_23) rfl ?_
        show Steps p.tables e below (s₁.setTop (mkF m 24 #[.val (.int p1), .val (.int ((p1 &&& (3 : Int32)) % (3 : Int32))), .unset, .unset] [(.int (((p1.toUInt32 >>> ((3 : Int32) &&& 31).toUInt32).toInt32) &&& (255 : Int32)))])) t
        refine XS.i2c X0.here hx rfl (hb hby d1_24) rfl ?_
        exact k
      exact J94 _ _  ((((p1.toUInt32 >>> ((3 : Int32) &&& 31).toUInt32).toInt32) &&& (255 : Int32)).toUInt32.toUInt16.toUInt32.toInt32) (ownWider X0 (by decide) (by decide)) e0 NF  (own_byte_and _)
    · skip
      refine WP.st (T' := s₁) (f' := (mkF m 25 #[.val (.int p1), .val (.int ((p1 &&& (3 : Int32)) % (3 : Int32))), .unset, .unset] [(.int (37 : Int32))])) (fun t k => ?_) ?_
      · refine XS.ifNo X0.here hx rfl (hb hby d1_9) rfl ((if0 _ _).trans (feq hc113).1) ?_
        show Steps p.tables e below (s₁.setTop (mkF m 12 #[.val (.int p1), .val (.int ((p1 &&& (3 : Int32)) % (3 : Int32))), .unset, .unset] [])) t
        refine XS.bipush X0.here hx rfl (hb hby d1_12) ?_
        show Steps p.tables e below (s₁.setTop (mkF m 14 #[.val (.int p1), .val (.int ((p1 &&& (3 : Int32)) % (3 : Int32))), .unset, .unset] [(.int (37 : Int32))])) t
        refine XS.goto X0.here hx rfl (pc0 := 14) (pc' := 25) rfl (hb hby d1_14) (by decide) (by decide) ?_
        exact k
      exact J94 _ _  (37 : Int32) (ownWider X0 (by decide) (by decide)) e0 NF  ⟨by decide, by decide, by decide⟩
theorem ef_8 (m : MethodId) (z0 : Addr) : entryFrame m #[(.ref z0)] 1 = mkF m 0 #[.val (.ref z0)] [] := by
  all_goals first | (simp [entryFrame, mkF, argsToLocals, Value.category]; done) | rfl
theorem pn_4 : plainName "com/example/skope/skope/xml/Intake" = true := by first | (simp [plainName, overriddenIn]; done) | decide +kernel
theorem d8_0 : decode prog_26_method_1_code 0 = .ok (.aload_n 0, 1) := by decide +kernel
theorem w_43 {a0 : Array Value} {Z : State} (hw : ∀ d ∈ tables_1, d.before a0 Z = true) : (Jvm.Cond.methodLink "com/example/skope/skope/xml/Intake" (1 : Nat) ({ cls := "java/lang/Object", name := "<init>", desc := "()V" } : Jvm.MethodName)).before a0 Z = true := hw _ (List.mem_of_getElem? (i := 43) rfl)
theorem d8_1 : decode prog_26_method_1_code 1 = .ok (.invokespecial 1, 3) := by decide +kernel
theorem d8_4 : decode prog_26_method_1_code 4 = .ok (.aload_n 0, 1) := by decide +kernel
theorem d8_5 : decode prog_26_method_1_code 5 = .ok (.iconst 0, 1) := by decide +kernel
theorem w_44 {a0 : Array Value} {Z : State} (hw : ∀ d ∈ tables_1, d.before a0 Z = true) : (Jvm.Cond.arrayClass Jvm.ClassFile.FieldType.int).before a0 Z = true := hw _ (List.mem_of_getElem? (i := 44) rfl)
theorem d8_6 : decode prog_26_method_1_code 6 = .ok (.newarray .int, 2) := by decide +kernel
theorem w_45 {a0 : Array Value} {Z : State} (hw : ∀ d ∈ tables_1, d.before a0 Z = true) : (Jvm.Cond.fieldLink "com/example/skope/skope/xml/Intake" (7 : Nat) "com/example/skope/skope/xml/Intake" "longestValues" "[I").before a0 Z = true := hw _ (List.mem_of_getElem? (i := 45) rfl)
theorem w_46 {a0 : Array Value} {Z : State} (hw : ∀ d ∈ tables_1, d.before a0 Z = true) : (Jvm.Cond.lays "com/example/skope/skope/xml/Intake" "com/example/skope/skope/xml/Intake" "longestValues" "[I").before a0 Z = true := hw _ (List.mem_of_getElem? (i := 46) rfl)
theorem w_38 {a0 : Array Value} {Z : State} (hw : ∀ d ∈ tables_1, d.before a0 Z = true) : (Jvm.Cond.instantiable "com/example/skope/skope/xml/Intake" (15 : Nat)).before a0 Z = true := hw _ (List.mem_of_getElem? (i := 38) rfl)
theorem d8_8 : decode prog_26_method_1_code 8 = .ok (.putfield 7, 3) := by decide +kernel
theorem w_48 {a0 : Array Value} {Z : State} (hw : ∀ d ∈ tables_1, d.before a0 Z = true) : (Jvm.Cond.lays "com/example/skope/skope/xml/Intake" "com/example/skope/skope/xml/Intake" "dropsNames" "Z").before a0 Z = true := hw _ (List.mem_of_getElem? (i := 48) rfl)
theorem sn_2 {a0 : Array Value} {Z : State} (hw : ∀ d ∈ tables_1, d.before a0 Z = true) : Jvm.RoadKit.slotOf Z "com/example/skope/skope/xml/Intake" "dropsNames" "Z" ≠ Jvm.RoadKit.slotOf Z "com/example/skope/skope/xml/Intake" "longestValues" "[I" := slot_ne (Or.inl (w_48 hw)) (Or.inl (w_46 hw)) (by decide) (t := .boolean) (t' := (.array .int)) (by decide) (by decide)
theorem w_55 {a0 : Array Value} {Z : State} (hw : ∀ d ∈ tables_1, d.before a0 Z = true) : (Jvm.Cond.lays "com/example/skope/skope/xml/Intake" "com/example/skope/skope/xml/Intake" "internalParameterEntity" "Z").before a0 Z = true := hw _ (List.mem_of_getElem? (i := 55) rfl)
theorem sn_3 {a0 : Array Value} {Z : State} (hw : ∀ d ∈ tables_1, d.before a0 Z = true) : Jvm.RoadKit.slotOf Z "com/example/skope/skope/xml/Intake" "internalParameterEntity" "Z" ≠ Jvm.RoadKit.slotOf Z "com/example/skope/skope/xml/Intake" "longestValues" "[I" := slot_ne (Or.inl (w_55 hw)) (Or.inl (w_46 hw)) (by decide) (t := .boolean) (t' := (.array .int)) (by decide) (by decide)
theorem w_57 {a0 : Array Value} {Z : State} (hw : ∀ d ∈ tables_1, d.before a0 Z = true) : (Jvm.Cond.lays "com/example/skope/skope/xml/Intake" "com/example/skope/skope/xml/Intake" "internalGeneralEntity" "Z").before a0 Z = true := hw _ (List.mem_of_getElem? (i := 57) rfl)
theorem sn_4 {a0 : Array Value} {Z : State} (hw : ∀ d ∈ tables_1, d.before a0 Z = true) : Jvm.RoadKit.slotOf Z "com/example/skope/skope/xml/Intake" "internalGeneralEntity" "Z" ≠ Jvm.RoadKit.slotOf Z "com/example/skope/skope/xml/Intake" "longestValues" "[I" := slot_ne (Or.inl (w_57 hw)) (Or.inl (w_46 hw)) (by decide) (t := .boolean) (t' := (.array .int)) (by decide) (by decide)
theorem w_89 {a0 : Array Value} {Z : State} (hw : ∀ d ∈ tables_1, d.before a0 Z = true) : (Jvm.Cond.lays "com/example/skope/skope/xml/Intake" "com/example/skope/skope/xml/Intake" "attributeList" "Z").before a0 Z = true := hw _ (List.mem_of_getElem? (i := 89) rfl)
theorem sn_5 {a0 : Array Value} {Z : State} (hw : ∀ d ∈ tables_1, d.before a0 Z = true) : Jvm.RoadKit.slotOf Z "com/example/skope/skope/xml/Intake" "attributeList" "Z" ≠ Jvm.RoadKit.slotOf Z "com/example/skope/skope/xml/Intake" "longestValues" "[I" := slot_ne (Or.inl (w_89 hw)) (Or.inl (w_46 hw)) (by decide) (t := .boolean) (t' := (.array .int)) (by decide) (by decide)
theorem w_96 {a0 : Array Value} {Z : State} (hw : ∀ d ∈ tables_1, d.before a0 Z = true) : (Jvm.Cond.lays "com/example/skope/skope/xml/Intake" "com/example/skope/skope/xml/Intake" "documentTypeDeclaration" "Z").before a0 Z = true := hw _ (List.mem_of_getElem? (i := 96) rfl)
theorem sn_6 {a0 : Array Value} {Z : State} (hw : ∀ d ∈ tables_1, d.before a0 Z = true) : Jvm.RoadKit.slotOf Z "com/example/skope/skope/xml/Intake" "documentTypeDeclaration" "Z" ≠ Jvm.RoadKit.slotOf Z "com/example/skope/skope/xml/Intake" "longestValues" "[I" := slot_ne (Or.inl (w_96 hw)) (Or.inl (w_46 hw)) (by decide) (t := .boolean) (t' := (.array .int)) (by decide) (by decide)
theorem w_103 {a0 : Array Value} {Z : State} (hw : ∀ d ∈ tables_1, d.before a0 Z = true) : (Jvm.Cond.lays "com/example/skope/skope/xml/Intake" "com/example/skope/skope/xml/Intake" "declaringBytes" "J").before a0 Z = true := hw _ (List.mem_of_getElem? (i := 103) rfl)
theorem sn_7 {a0 : Array Value} {Z : State} (hw : ∀ d ∈ tables_1, d.before a0 Z = true) : Jvm.RoadKit.slotOf Z "com/example/skope/skope/xml/Intake" "declaringBytes" "J" ≠ Jvm.RoadKit.slotOf Z "com/example/skope/skope/xml/Intake" "longestValues" "[I" := slot_ne (Or.inl (w_103 hw)) (Or.inl (w_46 hw)) (by decide) (t := .long) (t' := (.array .int)) (by decide) (by decide)
theorem w_105 {a0 : Array Value} {Z : State} (hw : ∀ d ∈ tables_1, d.before a0 Z = true) : (Jvm.Cond.lays "com/example/skope/skope/xml/Intake" "com/example/skope/skope/xml/Intake" "bytes" "J").before a0 Z = true := hw _ (List.mem_of_getElem? (i := 105) rfl)
theorem sn_8 {a0 : Array Value} {Z : State} (hw : ∀ d ∈ tables_1, d.before a0 Z = true) : Jvm.RoadKit.slotOf Z "com/example/skope/skope/xml/Intake" "bytes" "J" ≠ Jvm.RoadKit.slotOf Z "com/example/skope/skope/xml/Intake" "longestValues" "[I" := slot_ne (Or.inl (w_105 hw)) (Or.inl (w_46 hw)) (by decide) (t := .long) (t' := (.array .int)) (by decide) (by decide)
theorem w_107 {a0 : Array Value} {Z : State} (hw : ∀ d ∈ tables_1, d.before a0 Z = true) : (Jvm.Cond.lays "com/example/skope/skope/xml/Intake" "com/example/skope/skope/xml/Intake" "stretch" "J").before a0 Z = true := hw _ (List.mem_of_getElem? (i := 107) rfl)
theorem sn_9 {a0 : Array Value} {Z : State} (hw : ∀ d ∈ tables_1, d.before a0 Z = true) : Jvm.RoadKit.slotOf Z "com/example/skope/skope/xml/Intake" "stretch" "J" ≠ Jvm.RoadKit.slotOf Z "com/example/skope/skope/xml/Intake" "longestValues" "[I" := slot_ne (Or.inl (w_107 hw)) (Or.inl (w_46 hw)) (by decide) (t := .long) (t' := (.array .int)) (by decide) (by decide)
theorem w_109 {a0 : Array Value} {Z : State} (hw : ∀ d ∈ tables_1, d.before a0 Z = true) : (Jvm.Cond.lays "com/example/skope/skope/xml/Intake" "com/example/skope/skope/xml/Intake" "started" "Z").before a0 Z = true := hw _ (List.mem_of_getElem? (i := 109) rfl)
theorem sn_10 {a0 : Array Value} {Z : State} (hw : ∀ d ∈ tables_1, d.before a0 Z = true) : Jvm.RoadKit.slotOf Z "com/example/skope/skope/xml/Intake" "started" "Z" ≠ Jvm.RoadKit.slotOf Z "com/example/skope/skope/xml/Intake" "longestValues" "[I" := slot_ne (Or.inl (w_109 hw)) (Or.inl (w_46 hw)) (by decide) (t := .boolean) (t' := (.array .int)) (by decide) (by decide)
theorem d8_11 : decode prog_26_method_1_code 11 = .ok (.aload_n 0, 1) := by decide +kernel
theorem d8_12 : decode prog_26_method_1_code 12 = .ok (.iconst 1, 1) := by decide +kernel
theorem w_47 {a0 : Array Value} {Z : State} (hw : ∀ d ∈ tables_1, d.before a0 Z = true) : (Jvm.Cond.fieldLink "com/example/skope/skope/xml/Intake" (13 : Nat) "com/example/skope/skope/xml/Intake" "dropsNames" "Z").before a0 Z = true := hw _ (List.mem_of_getElem? (i := 47) rfl)
theorem d8_13 : decode prog_26_method_1_code 13 = .ok (.putfield 13, 3) := by decide +kernel
theorem sn_11 {a0 : Array Value} {Z : State} (hw : ∀ d ∈ tables_1, d.before a0 Z = true) : Jvm.RoadKit.slotOf Z "com/example/skope/skope/xml/Intake" "longestValues" "[I" ≠ Jvm.RoadKit.slotOf Z "com/example/skope/skope/xml/Intake" "dropsNames" "Z" := slot_ne (Or.inl (w_46 hw)) (Or.inl (w_48 hw)) (by decide) (t := (.array .int)) (t' := .boolean) (by decide) (by decide)
theorem sn_12 {a0 : Array Value} {Z : State} (hw : ∀ d ∈ tables_1, d.before a0 Z = true) : Jvm.RoadKit.slotOf Z "com/example/skope/skope/xml/Intake" "internalParameterEntity" "Z" ≠ Jvm.RoadKit.slotOf Z "com/example/skope/skope/xml/Intake" "dropsNames" "Z" := slot_ne (Or.inl (w_55 hw)) (Or.inl (w_48 hw)) (by decide) (t := .boolean) (t' := .boolean) (by decide) (by decide)
theorem sn_13 {a0 : Array Value} {Z : State} (hw : ∀ d ∈ tables_1, d.before a0 Z = true) : Jvm.RoadKit.slotOf Z "com/example/skope/skope/xml/Intake" "internalGeneralEntity" "Z" ≠ Jvm.RoadKit.slotOf Z "com/example/skope/skope/xml/Intake" "dropsNames" "Z" := slot_ne (Or.inl (w_57 hw)) (Or.inl (w_48 hw)) (by decide) (t := .boolean) (t' := .boolean) (by decide) (by decide)
theorem sn_14 {a0 : Array Value} {Z : State} (hw : ∀ d ∈ tables_1, d.before a0 Z = true) : Jvm.RoadKit.slotOf Z "com/example/skope/skope/xml/Intake" "attributeList" "Z" ≠ Jvm.RoadKit.slotOf Z "com/example/skope/skope/xml/Intake" "dropsNames" "Z" := slot_ne (Or.inl (w_89 hw)) (Or.inl (w_48 hw)) (by decide) (t := .boolean) (t' := .boolean) (by decide) (by decide)
theorem sn_15 {a0 : Array Value} {Z : State} (hw : ∀ d ∈ tables_1, d.before a0 Z = true) : Jvm.RoadKit.slotOf Z "com/example/skope/skope/xml/Intake" "documentTypeDeclaration" "Z" ≠ Jvm.RoadKit.slotOf Z "com/example/skope/skope/xml/Intake" "dropsNames" "Z" := slot_ne (Or.inl (w_96 hw)) (Or.inl (w_48 hw)) (by decide) (t := .boolean) (t' := .boolean) (by decide) (by decide)
theorem sn_16 {a0 : Array Value} {Z : State} (hw : ∀ d ∈ tables_1, d.before a0 Z = true) : Jvm.RoadKit.slotOf Z "com/example/skope/skope/xml/Intake" "declaringBytes" "J" ≠ Jvm.RoadKit.slotOf Z "com/example/skope/skope/xml/Intake" "dropsNames" "Z" := slot_ne (Or.inl (w_103 hw)) (Or.inl (w_48 hw)) (by decide) (t := .long) (t' := .boolean) (by decide) (by decide)
theorem sn_17 {a0 : Array Value} {Z : State} (hw : ∀ d ∈ tables_1, d.before a0 Z = true) : Jvm.RoadKit.slotOf Z "com/example/skope/skope/xml/Intake" "bytes" "J" ≠ Jvm.RoadKit.slotOf Z "com/example/skope/skope/xml/Intake" "dropsNames" "Z" := slot_ne (Or.inl (w_105 hw)) (Or.inl (w_48 hw)) (by decide) (t := .long) (t' := .boolean) (by decide) (by decide)
theorem sn_18 {a0 : Array Value} {Z : State} (hw : ∀ d ∈ tables_1, d.before a0 Z = true) : Jvm.RoadKit.slotOf Z "com/example/skope/skope/xml/Intake" "stretch" "J" ≠ Jvm.RoadKit.slotOf Z "com/example/skope/skope/xml/Intake" "dropsNames" "Z" := slot_ne (Or.inl (w_107 hw)) (Or.inl (w_48 hw)) (by decide) (t := .long) (t' := .boolean) (by decide) (by decide)
theorem sn_19 {a0 : Array Value} {Z : State} (hw : ∀ d ∈ tables_1, d.before a0 Z = true) : Jvm.RoadKit.slotOf Z "com/example/skope/skope/xml/Intake" "started" "Z" ≠ Jvm.RoadKit.slotOf Z "com/example/skope/skope/xml/Intake" "dropsNames" "Z" := slot_ne (Or.inl (w_109 hw)) (Or.inl (w_48 hw)) (by decide) (t := .boolean) (t' := .boolean) (by decide) (by decide)
theorem d8_16 : decode prog_26_method_1_code 16 = .ok (.return_, 1) := by decide +kernel
def Q8 (Z : State) (a1 : Addr) (u_longestValues : Value) (u_dropsNames : Int32) (u_internalParameterEntity : Int32) (u_internalGeneralEntity : Int32) (u_attributeList : Int32) (u_documentTypeDeclaration : Int32) (u_declaringBytes : Int64) (u_bytes : Int64) (u_stretch : Int64) (u_started : Int32) (h0 : Heap) (n0 : Nat) (v : Option Value) (h : Heap) (L : List Loc) : Prop := v = none ∧ Fr n0 L ∧ Keep h0 h [a1] ∧ Fld Z h a1 "com/example/skope/skope/xml/Intake" "dropsNames" "Z" (.int (1 : Int32)) ∧ Fld Z h a1 "com/example/skope/skope/xml/Intake" "internalParameterEntity" "Z" (.int u_internalParameterEntity) ∧ Fld Z h a1 "com/example/skope/skope/xml/Intake" "internalGeneralEntity" "Z" (.int u_internalGeneralEntity) ∧ Fld Z h a1 "com/example/skope/skope/xml/Intake" "attributeList" "Z" (.int u_attributeList) ∧ Fld Z h a1 "com/example/skope/skope/xml/Intake" "documentTypeDeclaration" "Z" (.int u_documentTypeDeclaration) ∧ Fld Z h a1 "com/example/skope/skope/xml/Intake" "declaringBytes" "J" (.long u_declaringBytes) ∧ Fld Z h a1 "com/example/skope/skope/xml/Intake" "bytes" "J" (.long u_bytes) ∧ Fld Z h a1 "com/example/skope/skope/xml/Intake" "stretch" "J" (.long u_stretch) ∧ Fld Z h a1 "com/example/skope/skope/xml/Intake" "started" "Z" (.int u_started)
set_option maxRecDepth 65536 in
set_option maxHeartbeats 40000000 in
theorem rm8 (l : Launch) (Z : State) (a0 : Array Value) (hw : ∀ d ∈ tables_1, d.before a0 Z = true) (wsC : List Jvm.Cond) (a1 : Addr) (u_longestValues : Value) (u_dropsNames : Int32) (u_internalParameterEntity : Int32) (u_internalGeneralEntity : Int32) (u_attributeList : Int32) (u_documentTypeDeclaration : Int32) (u_declaringBytes : Int64) (u_bytes : Int64) (u_stretch : Int64) (u_started : Int32) (h0 : Heap) (n0 : Nat) (Z0 : n0 ≤ h0.size) (E_a1 : Exa Z h0 a1 "com/example/skope/skope/xml/Intake") (g_a1 : n0 ≤ a1) (F_a1_longestValues : Fld Z h0 a1 "com/example/skope/skope/xml/Intake" "longestValues" "[I" u_longestValues) (F_a1_dropsNames : Fld Z h0 a1 "com/example/skope/skope/xml/Intake" "dropsNames" "Z" (.int u_dropsNames)) (F_a1_internalParameterEntity : Fld Z h0 a1 "com/example/skope/skope/xml/Intake" "internalParameterEntity" "Z" (.int u_internalParameterEntity)) (F_a1_internalGeneralEntity : Fld Z h0 a1 "com/example/skope/skope/xml/Intake" "internalGeneralEntity" "Z" (.int u_internalGeneralEntity)) (F_a1_attributeList : Fld Z h0 a1 "com/example/skope/skope/xml/Intake" "attributeList" "Z" (.int u_attributeList)) (F_a1_documentTypeDeclaration : Fld Z h0 a1 "com/example/skope/skope/xml/Intake" "documentTypeDeclaration" "Z" (.int u_documentTypeDeclaration)) (F_a1_declaringBytes : Fld Z h0 a1 "com/example/skope/skope/xml/Intake" "declaringBytes" "J" (.long u_declaringBytes)) (F_a1_bytes : Fld Z h0 a1 "com/example/skope/skope/xml/Intake" "bytes" "J" (.long u_bytes)) (F_a1_stretch : Fld Z h0 a1 "com/example/skope/skope/xml/Intake" "stretch" "J" (.long u_stretch)) (F_a1_started : Fld Z h0 a1 "com/example/skope/skope/xml/Intake" "started" "Z" (.int u_started)) :
    MetFree l (⟨"com/example/skope/skope/xml/Intake", "<init>", "()V"⟩ : MethodName) (head1 (Jvm.Cond.code (⟨"com/example/skope/skope/xml/Intake", "<init>", "()V"⟩ : MethodName) prog_26_method_1_code 1 none :: wsC) ({ frames := 1, cells := 1, slots := 0, locals := 12 } : Room)) (fun a U => a = #[(.ref a1)] ∧ Z.Warmed39 U.vm ∧ U.heap = h0) (fun _ _ _ _ _ => True) (fun _ U o U' => ∃ v L, o = .returned v ∧ Q8 Z a1 u_longestValues u_dropsNames u_internalParameterEntity u_internalGeneralEntity u_attributeList u_documentTypeDeclaration u_declaringBytes u_bytes u_stretch u_started h0 n0 v U'.heap L ∧ FrameEnd U o U' L ({ frames := 1, cells := 1, slots := 0, locals := 12 } : Room).cells ({ frames := 1, cells := 1, slots := 0, locals := 12 } : Room).slots) := by
  refine MetFree.of_bodySF (plainFor_of_name pn_4) hisR ?_
  intro p e s m args below meth c s₁ Bd hml0 hP hK
  obtain ⟨rfl, hZ, hh⟩ := hP
  have hx := Bd.exec
  have hby := Bd.bytes
  have hml : c.maxLocals = 1 := hml0
  have hown : s.vm.findClass "com/example/skope/skope/xml/Intake" = some m.cls := findClass_of_methodNamed Bd.named
  have hnm := (name_of_methodNamed Bd.named Bd.method).1
  have X0 : Stand p l e ({ frames := 1, cells := 1, slots := 0, locals := 12 } : Room) s m #[(.ref a1)] below meth c s₁ [] 0 0 := Stand.of_body Bd
  skip
  have e0 : s₁.heap = h0 := by rw [← hh, Bd.state]; rfl
  have NF := Fr.nil n0
  have KP : Keep h0 h0 [a1] := Keep.refl h0 _
  refine WP.go ?_
  refine WP.cast (ef_8 m a1) ?_
  refine WP.name ?_
  intro G hG
  refine WP.st (T' := s₁) (f' := (mkF m 1 #[.val (.ref a1)] [(.ref a1)])) (fun t k => ?_) ?_
  · refine XS.aloadN X0.here hx rfl (hb hby d8_0) rfl rfl ?_
    exact k
  obtain ⟨T114, X114, e114, st114⟩ := initO X0 hx hZ hown (w_43 hw) (w_16 hw) (w_17 hw) e0 (g := (mkF m 1 #[.val (.ref a1)] [(.ref a1)])) rfl (by rw [hml]; rfl) rfl (hb hby d8_1) (by decide) (W := 0) (by show 2 * 0 + _ ≤ _; exact Nat.le_of_eq rfl) (by decide)
  refine WP.st st114 ?_
  clear st114
  show WP p.tables e below _ T114 (mkF m 4 #[.val (.ref a1)] [])
  refine WP.st (T' := T114) (f' := (mkF m 6 #[.val (.ref a1)] [(.int (0 : Int32)), (.ref a1)])) (fun t k => ?_) ?_
  · refine XS.aloadN X114.here hx rfl (hb hby d8_4) rfl rfl ?_
    show Steps p.tables e below (T114.setTop (mkF m 5 #[.val (.ref a1)] [(.ref a1)])) t
    refine XS.iconst X114.here hx rfl (hb hby d8_5) ?_
    exact k
  obtain ⟨T115, h115, k115, X115, e115, E115, A115, st115⟩ := newP (aty := .int) X114 hx hZ (w_44 hw) e114 (g := (mkF m 6 #[.val (.ref a1)] [(.int (0 : Int32)), (.ref a1)])) rfl (hb hby d8_6) rfl (by decide) (cap := 0) (by decide) (by decide) (by decide) (by decide)
  obtain ⟨b115, g115⟩ : ∃ z, z = h0.size := ⟨_, rfl⟩
  rw [← g115] at A115 st115
  refine WP.st st115 ?_
  clear st115
  have ne_a1_b115 : a1 ≠ b115 := Nat.ne_of_lt (Nat.lt_of_lt_of_le E_a1.lt (Nat.le_of_eq g115.symm))
  have g_b115 : n0 ≤ b115 := Nat.le_trans Z0 (Nat.le_of_eq g115.symm)
  have sz_b115 : h0.size ≤ b115 := Nat.le_trans KP.1 (Nat.le_of_eq g115.symm)
  replace E_a1 := E_a1.ext E115
  replace F_a1_longestValues := F_a1_longestValues.ext E115
  replace F_a1_dropsNames := F_a1_dropsNames.ext E115
  replace F_a1_internalParameterEntity := F_a1_internalParameterEntity.ext E115
  replace F_a1_internalGeneralEntity := F_a1_internalGeneralEntity.ext E115
  replace F_a1_attributeList := F_a1_attributeList.ext E115
  replace F_a1_documentTypeDeclaration := F_a1_documentTypeDeclaration.ext E115
  replace F_a1_declaringBytes := F_a1_declaringBytes.ext E115
  replace F_a1_bytes := F_a1_bytes.ext E115
  replace F_a1_stretch := F_a1_stretch.ext E115
  replace F_a1_started := F_a1_started.ext E115
  replace Z0 := Nat.le_trans Z0 E115.1
  replace KP := KP.ext E115
  have V_b115 : Arv Z h115 b115 k115 .int (0 : Int32) [] (.int (0 : Int32)) := (Arv.new A115 (by decide)).pad (pad_rep [] (.int (0 : Int32)) 0)
  show WP p.tables e below _ T115 (mkF m 8 #[.val (.ref a1)] [(.ref b115), (.ref a1)])
  obtain ⟨T116, h116, X116, e116, W116, st116⟩ := putF X115 hx hZ hown (host := "") (Or.inl (w_45 hw)) Via.refl e115 F_a1_longestValues E_a1 (Or.inl (w_46 hw)) (w_38 hw) (ty := (.array .int)) (by decide) rfl rfl (g := (mkF m 8 #[.val (.ref a1)] [(.ref b115), (.ref a1)])) rfl rfl (hb hby d8_8)
  refine WP.st st116 ?_
  clear st116
  replace E_a1 := E_a1.wr W116
  replace F_a1_longestValues := F_a1_longestValues.same W116
  replace F_a1_dropsNames := F_a1_dropsNames.other W116 (Or.inr (sn_2 hw))
  replace F_a1_internalParameterEntity := F_a1_internalParameterEntity.other W116 (Or.inr (sn_3 hw))
  replace F_a1_internalGeneralEntity := F_a1_internalGeneralEntity.other W116 (Or.inr (sn_4 hw))
  replace F_a1_attributeList := F_a1_attributeList.other W116 (Or.inr (sn_5 hw))
  replace F_a1_documentTypeDeclaration := F_a1_documentTypeDeclaration.other W116 (Or.inr (sn_6 hw))
  replace F_a1_declaringBytes := F_a1_declaringBytes.other W116 (Or.inr (sn_7 hw))
  replace F_a1_bytes := F_a1_bytes.other W116 (Or.inr (sn_8 hw))
  replace F_a1_stretch := F_a1_stretch.other W116 (Or.inr (sn_9 hw))
  replace F_a1_started := F_a1_started.other W116 (Or.inr (sn_10 hw))
  replace V_b115 := V_b115.other W116 (Ne.symm ne_a1_b115)
  replace Z0 := Nat.le_trans Z0 (Keep.of_wr W116).1
  replace KP := KP.wr W116 (Or.inl (List.mem_of_getElem? (i := 0) rfl))
  replace NF := Fr.snoc X116 NF g_a1
  clear W116
  have hXN : ∃ LL, Stand p l e ({ frames := 1, cells := 1, slots := 0, locals := 12 } : Room) s m #[(.ref a1)] below meth c T116 LL 1 0 ∧ Fr n0 LL := ⟨_, X116, NF⟩
  clear X116 NF
  obtain ⟨LL117, X116, NF⟩ := hXN
  show WP p.tables e below _ T116 (mkF m 11 #[.val (.ref a1)] [])
  refine WP.st (T' := T116) (f' := (mkF m 13 #[.val (.ref a1)] [(.int (1 : Int32)), (.ref a1)])) (fun t k => ?_) ?_
  · refine XS.aloadN X116.here hx rfl (hb hby d8_11) rfl rfl ?_
    show Steps p.tables e below (T116.setTop (mkF m 12 #[.val (.ref a1)] [(.ref a1)])) t
    refine XS.iconst X116.here hx rfl (hb hby d8_12) ?_
    exact k
  obtain ⟨T118, h118, X118, e118, W118, st118⟩ := putFN X116 hx hZ hown (w_47 hw) Via.refl e116 F_a1_dropsNames E_a1 (Or.inl (w_48 hw)) (w_38 hw) (ty := .boolean) (v := (.int (1 : Int32))) (v' := (.int (1 : Int32))) (by decide) rfl (by decide) (g := (mkF m 13 #[.val (.ref a1)] [(.int (1 : Int32)), (.ref a1)])) rfl rfl (hb hby d8_13)
  refine WP.st st118 ?_
  clear st118
  replace E_a1 := E_a1.wr W118
  replace F_a1_longestValues := F_a1_longestValues.other W118 (Or.inr (sn_11 hw))
  replace F_a1_dropsNames := F_a1_dropsNames.same W118
  replace F_a1_internalParameterEntity := F_a1_internalParameterEntity.other W118 (Or.inr (sn_12 hw))
  replace F_a1_internalGeneralEntity := F_a1_internalGeneralEntity.other W118 (Or.inr (sn_13 hw))
  replace F_a1_attributeList := F_a1_attributeList.other W118 (Or.inr (sn_14 hw))
  replace F_a1_documentTypeDeclaration := F_a1_documentTypeDeclaration.other W118 (Or.inr (sn_15 hw))
  replace F_a1_declaringBytes := F_a1_declaringBytes.other W118 (Or.inr (sn_16 hw))
  replace F_a1_bytes := F_a1_bytes.other W118 (Or.inr (sn_17 hw))
  replace F_a1_stretch := F_a1_stretch.other W118 (Or.inr (sn_18 hw))
  replace F_a1_started := F_a1_started.other W118 (Or.inr (sn_19 hw))
  replace V_b115 := V_b115.other W118 (Ne.symm ne_a1_b115)
  replace Z0 := Nat.le_trans Z0 (Keep.of_wr W118).1
  replace KP := KP.wr W118 (Or.inl (List.mem_of_getElem? (i := 0) rfl))
  replace NF := Fr.snoc X118 NF g_a1
  clear W118
  have hXN : ∃ LL, Stand p l e ({ frames := 1, cells := 1, slots := 0, locals := 12 } : Room) s m #[(.ref a1)] below meth c T118 LL 1 0 ∧ Fr n0 LL := ⟨_, X118, NF⟩
  clear X118 NF
  obtain ⟨LL119, X118, NF⟩ := hXN
  show WP p.tables e below _ T118 (mkF m 16 #[.val (.ref a1)] [])
  subst hG
  obtain ⟨fs, hr, hrun, hended, hW, hsame⟩ := X118.leave (v := none) (fun _ => rfl)
  refine WP.fin ⟨_, _, ?_, hrun, hended, _, _, rfl, ?_, ⟨_, rfl⟩, hW, hsame.mono (by decide) (by decide)⟩
  · exact X118.returnOut hx Bd.returns (hb hby d8_16) hr
  · show Q8 Z a1 u_longestValues u_dropsNames u_internalParameterEntity u_internalGeneralEntity u_attributeList u_documentTypeDeclaration u_declaringBytes u_bytes u_stretch u_started h0 n0 _ T118.heap _
    rw [e118]
    exact ⟨rfl, NF, KP, F_a1_dropsNames, F_a1_internalParameterEntity, F_a1_internalGeneralEntity, F_a1_attributeList, F_a1_documentTypeDeclaration, F_a1_declaringBytes, F_a1_bytes, F_a1_stretch, F_a1_started⟩
theorem ef_9 (m : MethodId) (z0 : Addr) : entryFrame m #[(.ref z0)] 1 = mkF m 0 #[.val (.ref z0)] [] := by
  all_goals first | (simp [entryFrame, mkF, argsToLocals, Value.category]; done) | rfl
theorem d9_0 : decode prog_26_method_13_code 0 = .ok (.aload_n 0, 1) := by decide +kernel
theorem w_54 {a0 : Array Value} {Z : State} (hw : ∀ d ∈ tables_1, d.before a0 Z = true) : (Jvm.Cond.fieldLink "com/example/skope/skope/xml/Intake" (70 : Nat) "com/example/skope/skope/xml/Intake" "internalParameterEntity" "Z").before a0 Z = true := hw _ (List.mem_of_getElem? (i := 54) rfl)
theorem d9_1 : decode prog_26_method_13_code 1 = .ok (.getfield 70, 3) := by decide +kernel
theorem d9_4 : decode prog_26_method_13_code 4 = .ok (.ifCond .ne 17, 3) := by decide +kernel
theorem d9_7 : decode prog_26_method_13_code 7 = .ok (.aload_n 0, 1) := by decide +kernel
theorem w_56 {a0 : Array Value} {Z : State} (hw : ∀ d ∈ tables_1, d.before a0 Z = true) : (Jvm.Cond.fieldLink "com/example/skope/skope/xml/Intake" (73 : Nat) "com/example/skope/skope/xml/Intake" "internalGeneralEntity" "Z").before a0 Z = true := hw _ (List.mem_of_getElem? (i := 56) rfl)
theorem d9_8 : decode prog_26_method_13_code 8 = .ok (.getfield 73, 3) := by decide +kernel
theorem d9_11 : decode prog_26_method_13_code 11 = .ok (.ifCond .eq 14, 3) := by decide +kernel
theorem d9_25 : decode prog_26_method_13_code 25 = .ok (.iconst 0, 1) := by decide +kernel
theorem d9_26 : decode prog_26_method_13_code 26 = .ok (.ireturn, 1) := by decide +kernel
theorem d9_14 : decode prog_26_method_13_code 14 = .ok (.aload_n 0, 1) := by decide +kernel
theorem w_88 {a0 : Array Value} {Z : State} (hw : ∀ d ∈ tables_1, d.before a0 Z = true) : (Jvm.Cond.fieldLink "com/example/skope/skope/xml/Intake" (76 : Nat) "com/example/skope/skope/xml/Intake" "attributeList" "Z").before a0 Z = true := hw _ (List.mem_of_getElem? (i := 88) rfl)
theorem d9_15 : decode prog_26_method_13_code 15 = .ok (.getfield 76, 3) := by decide +kernel
theorem d9_18 : decode prog_26_method_13_code 18 = .ok (.ifCond .eq 7, 3) := by decide +kernel
theorem d9_21 : decode prog_26_method_13_code 21 = .ok (.iconst 1, 1) := by decide +kernel
theorem d9_22 : decode prog_26_method_13_code 22 = .ok (.goto 4, 3) := by decide +kernel
def Q9 (Z : State) (a1 : Addr) (u_internalParameterEntity : Int32) (u_internalGeneralEntity : Int32) (u_attributeList : Int32) (h0 : Heap) (n0 : Nat) (v : Option Value) (h : Heap) (L : List Loc) : Prop := v = some (.int (own_ru u_internalParameterEntity u_internalGeneralEntity u_attributeList)) ∧ Fr n0 L ∧ h = h0
set_option maxRecDepth 65536 in
set_option maxHeartbeats 40000000 in
theorem rm9 (l : Launch) (Z : State) (a0 : Array Value) (hw : ∀ d ∈ tables_1, d.before a0 Z = true) (wsC : List Jvm.Cond) (a1 : Addr) (u_internalParameterEntity : Int32) (u_internalGeneralEntity : Int32) (u_attributeList : Int32) (h0 : Heap) (n0 : Nat) (Z0 : n0 ≤ h0.size) (F_a1_internalParameterEntity : Fld Z h0 a1 "com/example/skope/skope/xml/Intake" "internalParameterEntity" "Z" (.int u_internalParameterEntity)) (F_a1_internalGeneralEntity : Fld Z h0 a1 "com/example/skope/skope/xml/Intake" "internalGeneralEntity" "Z" (.int u_internalGeneralEntity)) (F_a1_attributeList : Fld Z h0 a1 "com/example/skope/skope/xml/Intake" "attributeList" "Z" (.int u_attributeList)) :
    MetFree l (⟨"com/example/skope/skope/xml/Intake", "replacedUncounted", "()Z"⟩ : MethodName) (head1 (Jvm.Cond.code (⟨"com/example/skope/skope/xml/Intake", "replacedUncounted", "()Z"⟩ : MethodName) prog_26_method_13_code 1 (some .boolean) :: wsC) ({ frames := 0, cells := 0, slots := 0, locals := 0 } : Room)) (fun a U => a = #[(.ref a1)] ∧ Z.Warmed39 U.vm ∧ U.heap = h0) (fun _ _ _ _ _ => True) (fun _ U o U' => ∃ v L, o = .returned v ∧ Q9 Z a1 u_internalParameterEntity u_internalGeneralEntity u_attributeList h0 n0 v U'.heap L ∧ FrameEnd U o U' L ({ frames := 0, cells := 0, slots := 0, locals := 0 } : Room).cells ({ frames := 0, cells := 0, slots := 0, locals := 0 } : Room).slots) := by
  refine MetFree.of_bodySF (plainFor_of_name pn_4) hisR ?_
  intro p e s m args below meth c s₁ Bd hml0 hP hK
  obtain ⟨rfl, hZ, hh⟩ := hP
  have hx := Bd.exec
  have hby := Bd.bytes
  have hml : c.maxLocals = 1 := hml0
  have hown : s.vm.findClass "com/example/skope/skope/xml/Intake" = some m.cls := findClass_of_methodNamed Bd.named
  have hnm := (name_of_methodNamed Bd.named Bd.method).1
  have X0 : Stand p l e ({ frames := 0, cells := 0, slots := 0, locals := 0 } : Room) s m #[(.ref a1)] below meth c s₁ [] 0 0 := Stand.of_body Bd
  skip
  have e0 : s₁.heap = h0 := by rw [← hh, Bd.state]; rfl
  have NF := Fr.nil n0
  refine WP.go ?_
  refine WP.cast (ef_9 m a1) ?_
  refine WP.name ?_
  intro G hG
  refine WP.st (T' := s₁) (f' := (mkF m 1 #[.val (.ref a1)] [(.ref a1)])) (fun t k => ?_) ?_
  · refine XS.aloadN X0.here hx rfl (hb hby d9_0) rfl rfl ?_
    exact k
  obtain ⟨T120, X120, e120, st120⟩ := getF X0 hx hZ hown (host := "") (Or.inl (w_54 hw)) Via.refl e0 F_a1_internalParameterEntity (g := (mkF m 1 #[.val (.ref a1)] [(.ref a1)])) rfl rfl (hb hby d9_1)
  refine WP.st st120 ?_
  clear st120
  show WP p.tables e below _ T120 (mkF m 4 #[.val (.ref a1)] [(.int u_internalParameterEntity)])
  by_cases hc121 : u_internalParameterEntity = (0 : Int32)
  · skip
    refine WP.st (T' := T120) (f' := (mkF m 8 #[.val (.ref a1)] [(.ref a1)])) (fun t k => ?_) ?_
    · refine XS.ifNo X120.here hx rfl (hb hby d9_4) rfl ((if0 _ _).trans (teq hc121).2) ?_
      show Steps p.tables e below (T120.setTop (mkF m 7 #[.val (.ref a1)] [])) t
      refine XS.aloadN X120.here hx rfl (hb hby d9_7) rfl rfl ?_
      exact k
    obtain ⟨T122, X122, e122, st122⟩ := getF X120 hx hZ hown (host := "") (Or.inl (w_56 hw)) Via.refl e120 F_a1_internalGeneralEntity (g := (mkF m 8 #[.val (.ref a1)] [(.ref a1)])) rfl rfl (hb hby d9_8)
    refine WP.st st122 ?_
    clear st122
    show WP p.tables e below _ T122 (mkF m 11 #[.val (.ref a1)] [(.int u_internalGeneralEntity)])
    by_cases hc123 : u_internalGeneralEntity = (0 : Int32)
    · skip
      refine WP.st (T' := T122) (f' := (mkF m 26 #[.val (.ref a1)] [(.int (0 : Int32))])) (fun t k => ?_) ?_
      · refine XS.ifYes X122.here hx rfl (pc0 := 11) (pc' := 25) rfl (hb hby d9_11) rfl ((if0 _ _).trans (teq hc123).1) (by decide) (by decide) ?_
        show Steps p.tables e below (T122.setTop (mkF m 25 #[.val (.ref a1)] [])) t
        refine XS.iconst X122.here hx rfl (hb hby d9_25) ?_
        exact k
      subst hG
      obtain ⟨fs, hr, hrun, hended, hW, hsame⟩ := X122.leave (v := some (.int (0 : Int32))) (fun h => by rw [Bd.returns] at h; cases h)
      refine WP.fin ⟨_, _, ?_, hrun, hended, _, _, rfl, ?_, ⟨_, rfl⟩, hW, hsame.mono (by decide) (by decide)⟩
      · exact retN X122 hx (t := .boolean) Bd.returns (by simp) (hb hby d9_26) hr
      · show Q9 Z a1 u_internalParameterEntity u_internalGeneralEntity u_attributeList h0 n0 _ T122.heap _
        rw [e122]
        exact ⟨(by simp [own_ru, hc121, hc123]), NF, rfl⟩
    · skip
      refine WP.st (T' := T122) (f' := (mkF m 15 #[.val (.ref a1)] [(.ref a1)])) (fun t k => ?_) ?_
      · refine XS.ifNo X122.here hx rfl (hb hby d9_11) rfl ((if0 _ _).trans (feq hc123).1) ?_
        show Steps p.tables e below (T122.setTop (mkF m 14 #[.val (.ref a1)] [])) t
        refine XS.aloadN X122.here hx rfl (hb hby d9_14) rfl rfl ?_
        exact k
      obtain ⟨T124, X124, e124, st124⟩ := getF X122 hx hZ hown (host := "") (Or.inl (w_88 hw)) Via.refl e122 F_a1_attributeList (g := (mkF m 15 #[.val (.ref a1)] [(.ref a1)])) rfl rfl (hb hby d9_15)
      refine WP.st st124 ?_
      clear st124
      show WP p.tables e below _ T124 (mkF m 18 #[.val (.ref a1)] [(.int u_attributeList)])
      by_cases hc125 : u_attributeList = (0 : Int32)
      · skip
        refine WP.st (T' := T124) (f' := (mkF m 26 #[.val (.ref a1)] [(.int (0 : Int32))])) (fun t k => ?_) ?_
        · refine XS.ifYes X124.here hx rfl (pc0 := 18) (pc' := 25) rfl (hb hby d9_18) rfl ((if0 _ _).trans (teq hc125).1) (by decide) (by decide) ?_
          show Steps p.tables e below (T124.setTop (mkF m 25 #[.val (.ref a1)] [])) t
          refine XS.iconst X124.here hx rfl (hb hby d9_25) ?_
          exact k
        subst hG
        obtain ⟨fs, hr, hrun, hended, hW, hsame⟩ := X124.leave (v := some (.int (0 : Int32))) (fun h => by rw [Bd.returns] at h; cases h)
        refine WP.fin ⟨_, _, ?_, hrun, hended, _, _, rfl, ?_, ⟨_, rfl⟩, hW, hsame.mono (by decide) (by decide)⟩
        · exact retN X124 hx (t := .boolean) Bd.returns (by simp) (hb hby d9_26) hr
        · show Q9 Z a1 u_internalParameterEntity u_internalGeneralEntity u_attributeList h0 n0 _ T124.heap _
          rw [e124]
          exact ⟨(by simp [own_ru, hc121, hc123, hc125]), NF, rfl⟩
      · skip
        refine WP.st (T' := T124) (f' := (mkF m 26 #[.val (.ref a1)] [(.int (1 : Int32))])) (fun t k => ?_) ?_
        · refine XS.ifNo X124.here hx rfl (hb hby d9_18) rfl ((if0 _ _).trans (feq hc125).1) ?_
          show Steps p.tables e below (T124.setTop (mkF m 21 #[.val (.ref a1)] [])) t
          refine XS.iconst X124.here hx rfl (hb hby d9_21) ?_
          show Steps p.tables e below (T124.setTop (mkF m 22 #[.val (.ref a1)] [(.int (1 : Int32))])) t
          refine XS.goto X124.here hx rfl (pc0 := 22) (pc' := 26) rfl (hb hby d9_22) (by decide) (by decide) ?_
          exact k
        subst hG
        obtain ⟨fs, hr, hrun, hended, hW, hsame⟩ := X124.leave (v := some (.int (1 : Int32))) (fun h => by rw [Bd.returns] at h; cases h)
        refine WP.fin ⟨_, _, ?_, hrun, hended, _, _, rfl, ?_, ⟨_, rfl⟩, hW, hsame.mono (by decide) (by decide)⟩
        · exact retN X124 hx (t := .boolean) Bd.returns (by simp) (hb hby d9_26) hr
        · show Q9 Z a1 u_internalParameterEntity u_internalGeneralEntity u_attributeList h0 n0 _ T124.heap _
          rw [e124]
          exact ⟨(by simp [own_ru, hc121, hc123, hc125]), NF, rfl⟩
  · skip
    refine WP.st (T' := T120) (f' := (mkF m 26 #[.val (.ref a1)] [(.int (1 : Int32))])) (fun t k => ?_) ?_
    · refine XS.ifYes X120.here hx rfl (pc0 := 4) (pc' := 21) rfl (hb hby d9_4) rfl ((if0 _ _).trans (feq hc121).2) (by decide) (by decide) ?_
      show Steps p.tables e below (T120.setTop (mkF m 21 #[.val (.ref a1)] [])) t
      refine XS.iconst X120.here hx rfl (hb hby d9_21) ?_
      show Steps p.tables e below (T120.setTop (mkF m 22 #[.val (.ref a1)] [(.int (1 : Int32))])) t
      refine XS.goto X120.here hx rfl (pc0 := 22) (pc' := 26) rfl (hb hby d9_22) (by decide) (by decide) ?_
      exact k
    subst hG
    obtain ⟨fs, hr, hrun, hended, hW, hsame⟩ := X120.leave (v := some (.int (1 : Int32))) (fun h => by rw [Bd.returns] at h; cases h)
    refine WP.fin ⟨_, _, ?_, hrun, hended, _, _, rfl, ?_, ⟨_, rfl⟩, hW, hsame.mono (by decide) (by decide)⟩
    · exact retN X120 hx (t := .boolean) Bd.returns (by simp) (hb hby d9_26) hr
    · show Q9 Z a1 u_internalParameterEntity u_internalGeneralEntity u_attributeList h0 n0 _ T120.heap _
      rw [e120]
      exact ⟨(by simp [own_ru, hc121]), NF, rfl⟩
theorem ef_10y (m : MethodId) (z0 : Addr) (z1 : Addr) : entryFrame m #[(.ref z0), (.ref z1)] 2 = mkF m 0 #[.val (.ref z0), .val (.ref z1)] [] := by
  all_goals first | (simp [entryFrame, mkF, argsToLocals, Value.category]; done) | rfl
theorem d10_0 : decode prog_26_method_11_code 0 = .ok (.aload_n 1, 1) := by decide +kernel
theorem d10_1 : decode prog_26_method_11_code 1 = .ok (.ldc 64, 2) := by decide +kernel
theorem w_63 {a0 : Array Value} {Z : State} (hw : ∀ d ∈ tables_1, d.before a0 Z = true) : (Jvm.Cond.stringLink "com/example/skope/skope/xml/Intake" (64 : Nat) "%").before a0 Z = true := hw _ (List.mem_of_getElem? (i := 63) rfl)
theorem w_64 {a0 : Array Value} {Z : State} (hw : ∀ d ∈ tables_1, d.before a0 Z = true) : (Jvm.Cond.methodLink "com/example/skope/skope/xml/Intake" (66 : Nat) ({ cls := "java/lang/String", name := "startsWith", desc := "(Ljava/lang/String;)Z" } : Jvm.MethodName)).before a0 Z = true := hw _ (List.mem_of_getElem? (i := 64) rfl)
theorem d10_3 : decode prog_26_method_11_code 3 = .ok (.invokevirtual 66, 3) := by decide +kernel
theorem w_68 {a0 : Array Value} {Z : State} (hw : ∀ d ∈ tables_1, d.before a0 Z = true) : (Jvm.Cond.code ({ cls := "java/lang/String", name := "startsWith", desc := "(Ljava/lang/String;)Z" } : Jvm.MethodName) jdk_42_method_76_code (2 : Nat) (Option.some Jvm.ClassFile.FieldType.boolean)).before a0 Z = true := hw _ (List.mem_of_getElem? (i := 68) rfl)
theorem pd_11 : parseMethodDescriptor "(Ljava/lang/String;)Z" = some ⟨[(.object "java/lang/String")], some .boolean⟩ := by decide +kernel
theorem w_67 {a0 : Array Value} {Z : State} (hw : ∀ d ∈ tables_1, d.before a0 Z = true) : (Jvm.Cond.selects "java/lang/String" ({ cls := "java/lang/String", name := "startsWith", desc := "(Ljava/lang/String;)Z" } : Jvm.MethodName) ({ cls := "java/lang/String", name := "startsWith", desc := "(Ljava/lang/String;)Z" } : Jvm.MethodName)).before a0 Z = true := hw _ (List.mem_of_getElem? (i := 67) rfl)
theorem w_65 {a0 : Array Value} {Z : State} (hw : ∀ d ∈ tables_1, d.before a0 Z = true) : (Jvm.Cond.declares ({ cls := "java/lang/String", name := "startsWith", desc := "(Ljava/lang/String;)Z" } : Jvm.MethodName)).before a0 Z = true := hw _ (List.mem_of_getElem? (i := 65) rfl)
theorem w_66 {a0 : Array Value} {Z : State} (hw : ∀ d ∈ tables_1, d.before a0 Z = true) : (Jvm.Cond.instanceMethod ({ cls := "java/lang/String", name := "startsWith", desc := "(Ljava/lang/String;)Z" } : Jvm.MethodName)).before a0 Z = true := hw _ (List.mem_of_getElem? (i := 66) rfl)
theorem d10_6 : decode prog_26_method_11_code 6 = .ok (.ifCond .eq 11, 3) := by decide +kernel
theorem d10_9 : decode prog_26_method_11_code 9 = .ok (.aload_n 0, 1) := by decide +kernel
theorem d10_10 : decode prog_26_method_11_code 10 = .ok (.iconst 1, 1) := by decide +kernel
theorem d10_11 : decode prog_26_method_11_code 11 = .ok (.putfield 70, 3) := by decide +kernel
theorem sn_20 {a0 : Array Value} {Z : State} (hw : ∀ d ∈ tables_1, d.before a0 Z = true) : Jvm.RoadKit.slotOf Z "com/example/skope/skope/xml/Intake" "internalGeneralEntity" "Z" ≠ Jvm.RoadKit.slotOf Z "com/example/skope/skope/xml/Intake" "internalParameterEntity" "Z" := slot_ne (Or.inl (w_57 hw)) (Or.inl (w_55 hw)) (by decide) (t := .boolean) (t' := .boolean) (by decide) (by decide)
theorem sn_21 {a0 : Array Value} {Z : State} (hw : ∀ d ∈ tables_1, d.before a0 Z = true) : Jvm.RoadKit.slotOf Z "com/example/skope/skope/xml/Intake" "attributeList" "Z" ≠ Jvm.RoadKit.slotOf Z "com/example/skope/skope/xml/Intake" "internalParameterEntity" "Z" := slot_ne (Or.inl (w_89 hw)) (Or.inl (w_55 hw)) (by decide) (t := .boolean) (t' := .boolean) (by decide) (by decide)
theorem sn_22 {a0 : Array Value} {Z : State} (hw : ∀ d ∈ tables_1, d.before a0 Z = true) : Jvm.RoadKit.slotOf Z "com/example/skope/skope/xml/Intake" "documentTypeDeclaration" "Z" ≠ Jvm.RoadKit.slotOf Z "com/example/skope/skope/xml/Intake" "internalParameterEntity" "Z" := slot_ne (Or.inl (w_96 hw)) (Or.inl (w_55 hw)) (by decide) (t := .boolean) (t' := .boolean) (by decide) (by decide)
theorem sn_23 {a0 : Array Value} {Z : State} (hw : ∀ d ∈ tables_1, d.before a0 Z = true) : Jvm.RoadKit.slotOf Z "com/example/skope/skope/xml/Intake" "declaringBytes" "J" ≠ Jvm.RoadKit.slotOf Z "com/example/skope/skope/xml/Intake" "internalParameterEntity" "Z" := slot_ne (Or.inl (w_103 hw)) (Or.inl (w_55 hw)) (by decide) (t := .long) (t' := .boolean) (by decide) (by decide)
theorem sn_24 {a0 : Array Value} {Z : State} (hw : ∀ d ∈ tables_1, d.before a0 Z = true) : Jvm.RoadKit.slotOf Z "com/example/skope/skope/xml/Intake" "bytes" "J" ≠ Jvm.RoadKit.slotOf Z "com/example/skope/skope/xml/Intake" "internalParameterEntity" "Z" := slot_ne (Or.inl (w_105 hw)) (Or.inl (w_55 hw)) (by decide) (t := .long) (t' := .boolean) (by decide) (by decide)
theorem sn_25 {a0 : Array Value} {Z : State} (hw : ∀ d ∈ tables_1, d.before a0 Z = true) : Jvm.RoadKit.slotOf Z "com/example/skope/skope/xml/Intake" "stretch" "J" ≠ Jvm.RoadKit.slotOf Z "com/example/skope/skope/xml/Intake" "internalParameterEntity" "Z" := slot_ne (Or.inl (w_107 hw)) (Or.inl (w_55 hw)) (by decide) (t := .long) (t' := .boolean) (by decide) (by decide)
theorem sn_26 {a0 : Array Value} {Z : State} (hw : ∀ d ∈ tables_1, d.before a0 Z = true) : Jvm.RoadKit.slotOf Z "com/example/skope/skope/xml/Intake" "started" "Z" ≠ Jvm.RoadKit.slotOf Z "com/example/skope/skope/xml/Intake" "internalParameterEntity" "Z" := slot_ne (Or.inl (w_109 hw)) (Or.inl (w_55 hw)) (by decide) (t := .boolean) (t' := .boolean) (by decide) (by decide)
theorem d10_14 : decode prog_26_method_11_code 14 = .ok (.goto 8, 3) := by decide +kernel
theorem d10_22 : decode prog_26_method_11_code 22 = .ok (.return_, 1) := by decide +kernel
def Q10y (Z : State) (a1 : Addr) (a2 : Addr) (u_internalParameterEntity : Int32) (u_internalGeneralEntity : Int32) (u_attributeList : Int32) (u_documentTypeDeclaration : Int32) (u_declaringBytes : Int64) (u_bytes : Int64) (u_stretch : Int64) (u_started : Int32) (ta : Addr) (kb : ClassId) (cs : List Int32) (gC : Int32) (h0 : Heap) (n0 : Nat) (v : Option Value) (h : Heap) (L : List Loc) (ve : Vm) : Prop := v = none ∧ Fr n0 L ∧ Keep h0 h [a1] ∧ Fld Z h a1 "com/example/skope/skope/xml/Intake" "internalParameterEntity" "Z" (.int (1 : Int32)) ∧ Fld Z h a1 "com/example/skope/skope/xml/Intake" "internalGeneralEntity" "Z" (.int u_internalGeneralEntity) ∧ Fld Z h a1 "com/example/skope/skope/xml/Intake" "attributeList" "Z" (.int u_attributeList) ∧ Fld Z h a1 "com/example/skope/skope/xml/Intake" "documentTypeDeclaration" "Z" (.int u_documentTypeDeclaration) ∧ Fld Z h a1 "com/example/skope/skope/xml/Intake" "declaringBytes" "J" (.long u_declaringBytes) ∧ Fld Z h a1 "com/example/skope/skope/xml/Intake" "bytes" "J" (.long u_bytes) ∧ Fld Z h a1 "com/example/skope/skope/xml/Intake" "stretch" "J" (.long u_stretch) ∧ Fld Z h a1 "com/example/skope/skope/xml/Intake" "started" "Z" (.int u_started) ∧ own_POK Z h ve
set_option maxRecDepth 65536 in
set_option maxHeartbeats 40000000 in
theorem rm10y (l : Launch) (Z : State) (a0 : Array Value) (hw : ∀ d ∈ tables_1, d.before a0 Z = true) (wsC : List Jvm.Cond) (a1 : Addr) (a2 : Addr) (u_internalParameterEntity : Int32) (u_internalGeneralEntity : Int32) (u_attributeList : Int32) (u_documentTypeDeclaration : Int32) (u_declaringBytes : Int64) (u_bytes : Int64) (u_stretch : Int64) (u_started : Int32) (ta : Addr) (kb : ClassId) (cs : List Int32) (gC : Int32) (h0 : Heap) (n0 : Nat) (Z0 : n0 ≤ h0.size) (E_a1 : Exa Z h0 a1 "com/example/skope/skope/xml/Intake") (g_a1 : n0 ≤ a1) (F_a1_internalParameterEntity : Fld Z h0 a1 "com/example/skope/skope/xml/Intake" "internalParameterEntity" "Z" (.int u_internalParameterEntity)) (F_a1_internalGeneralEntity : Fld Z h0 a1 "com/example/skope/skope/xml/Intake" "internalGeneralEntity" "Z" (.int u_internalGeneralEntity)) (F_a1_attributeList : Fld Z h0 a1 "com/example/skope/skope/xml/Intake" "attributeList" "Z" (.int u_attributeList)) (F_a1_documentTypeDeclaration : Fld Z h0 a1 "com/example/skope/skope/xml/Intake" "documentTypeDeclaration" "Z" (.int u_documentTypeDeclaration)) (F_a1_declaringBytes : Fld Z h0 a1 "com/example/skope/skope/xml/Intake" "declaringBytes" "J" (.long u_declaringBytes)) (F_a1_bytes : Fld Z h0 a1 "com/example/skope/skope/xml/Intake" "bytes" "J" (.long u_bytes)) (F_a1_stretch : Fld Z h0 a1 "com/example/skope/skope/xml/Intake" "stretch" "J" (.long u_stretch)) (F_a1_started : Fld Z h0 a1 "com/example/skope/skope/xml/Intake" "started" "Z" (.int u_started)) (E_a2 : Exa Z h0 a2 "java/lang/String") (F_a2_value : Fld Z h0 a2 "java/lang/String" "value" "[B" (.ref ta)) (F_a2_coder : Fld Z h0 a2 "java/lang/String" "coder" "B" (.int (0 : Int32))) (V_ta : Arv Z h0 ta kb .byte (Int32.ofNat cs.length) ((cs.map (fun c => c.toInt8.toInt32)).map Value.int) (.int (0 : Int32))) (hcs : ∀ c ∈ cs, own_byte c) (hcl : cs.length ≤ 2) (OLD : Old Z n0 h0) (O2 : Sta Z Z.heap "java/lang/String" "COMPACT_STRINGS" "Z" (.int gC)) (hz : ¬ gC = (0 : Int32)) (hCHP : Jvm.Lit.constHeld Z "com/example/skope/skope/xml/Intake" 64) (hCW : Jvm.Lit.compactW.before a0 Z = true) (hip : own_isP cs = (1 : Int32)) :
    MetFree l (⟨"com/example/skope/skope/xml/Intake", "addInternalEntity", "(Ljava/lang/String;)V"⟩ : MethodName) (head1 (Jvm.Cond.code (⟨"com/example/skope/skope/xml/Intake", "addInternalEntity", "(Ljava/lang/String;)V"⟩ : MethodName) prog_26_method_11_code 2 none :: wsC) ({ frames := 4, cells := 2, slots := 8, locals := 59 } : Room)) (fun a U => a = #[(.ref a1), (.ref a2)] ∧ Z.Warmed39 U.vm ∧ U.heap = h0 ∧ own_POK Z h0 U.vm) (fun _ _ _ _ _ => True) (fun _ U o U' => ∃ v L, o = .returned v ∧ Q10y Z a1 a2 u_internalParameterEntity u_internalGeneralEntity u_attributeList u_documentTypeDeclaration u_declaringBytes u_bytes u_stretch u_started ta kb cs gC h0 n0 v U'.heap L U'.vm ∧ ReturnedEndW U o U' L ({ frames := 4, cells := 2, slots := 8, locals := 59 } : Room).cells ({ frames := 4, cells := 2, slots := 8, locals := 59 } : Room).slots) := by
  refine MetFree.of_bodySF (plainFor_of_name pn_4) hisR ?_
  intro p e s0 m args below meth c s₁ Bd hml0 hP hK
  obtain ⟨rfl, hZ, hh, JK⟩ := hP
  have hx := Bd.exec
  have hby := Bd.bytes
  have hml : c.maxLocals = 2 := hml0
  obtain ⟨vmw, hvw⟩ : ∃ z, z = s0.vm := ⟨_, rfl⟩
  obtain ⟨s, hsE⟩ : ∃ z, z = s0.setVm vmw := ⟨_, rfl⟩
  have SI : s0.Since vmw 0 := by rw [hvw]; exact (State.WarmedH.refl s0).since 0
  have W0 : 0 ≤ h0.size := Nat.zero_le _
  have hss : s = s0 := by rw [hsE, hvw]; rfl
  rw [← hss] at hZ
  replace JK : own_POK Z h0 vmw := by rw [hvw]; exact JK
  have hown : s.vm.findClass "com/example/skope/skope/xml/Intake" = some m.cls := by rw [hss]; exact findClass_of_methodNamed Bd.named
  have hnm := (name_of_methodNamed Bd.named Bd.method).1
  have X0 : Stand p l e ({ frames := 4, cells := 2, slots := 8, locals := 59 } : Room) s m #[(.ref a1), (.ref a2)] below meth c s₁ [] 0 0 := by rw [hss]; exact Stand.of_body Bd
  clear hss hvw
  skip
  have e0 : s₁.heap = h0 := by rw [← hh, Bd.state]; rfl
  have NF := Fr.nil n0
  have KP : Keep h0 h0 [a1] := Keep.refl h0 _
  refine WP.go ?_
  refine WP.cast (ef_10y m a1 a2) ?_
  refine WP.name ?_
  intro G hG
  rcases JK with IB0 | ⟨la126, lb126, lk126, LT, Em126⟩
  · skip
    refine WP.st (T' := s₁) (f' := (mkF m 1 #[.val (.ref a1), .val (.ref a2)] [(.ref a2)])) (fun t k => ?_) ?_
    · refine XS.aloadN X0.here hx rfl (hb hby d10_0) rfl rfl ?_
      exact k
    subst hsE
    obtain ⟨Ts127, IBx127, hnt127⟩ := own_coldPIB IB0
    obtain ⟨la127, T127, h127, kw127, lb127, lk127, X127, e127, E127, SI127, Wn127, hZ127, hown127, E_la127, F_la127_coder, F_la127_value, V_lb127, -, -, IBn127, LT127, st127⟩ := ldcSVL (s := s0) (vm0 := vmw) (Ts := Ts127) X0 hx hZ hown (w_63 hw) (own_sA hw) e0 SI W0 (Fr.nil _) (fun b cl q => by rw [hh]; exact OLD.2.2 b cl q) IBx127 hnt127.1 hCHP hCW (vs := [(.int (37 : Int32))]) (z := 1) ⟨by first | decide | (intro c hc; simp at hc), by first | rfl | decide⟩ (by decide) (by decide) (g := (mkF m 1 #[.val (.ref a1), .val (.ref a2)] [(.ref a2)])) rfl (hb hby d10_1) (n := 4) (by decide) (by decide) (by decide) (by decide)
    refine WP.st st127 ?_
    clear st127
    replace LT127 := own_hotPMk IBx127 IBn127 hnt127 LT127
    clear IBn127
    replace E_a1 := E_a1.ext E127
    replace F_a1_internalParameterEntity := F_a1_internalParameterEntity.ext E127
    replace F_a1_internalGeneralEntity := F_a1_internalGeneralEntity.ext E127
    replace F_a1_attributeList := F_a1_attributeList.ext E127
    replace F_a1_documentTypeDeclaration := F_a1_documentTypeDeclaration.ext E127
    replace F_a1_declaringBytes := F_a1_declaringBytes.ext E127
    replace F_a1_bytes := F_a1_bytes.ext E127
    replace F_a1_stretch := F_a1_stretch.ext E127
    replace F_a1_started := F_a1_started.ext E127
    replace E_a2 := E_a2.ext E127
    replace F_a2_value := F_a2_value.ext E127
    replace F_a2_coder := F_a2_coder.ext E127
    replace V_ta := V_ta.ext E127
    replace OLD := OLD.ext E127
    replace Z0 := Nat.le_trans Z0 E127.1
    replace W0 := Nat.le_trans W0 E127.1
    replace KP := KP.ext E127
    clear W0
    have W0 := Wn127
    clear Wn127
    clear hZ hown SI IB0
    obtain ⟨vmw, hvw⟩ : ∃ z, z = T127.vm := ⟨_, rfl⟩
    replace hZ127 : Z.Warmed39 vmw := by rw [hvw]; exact hZ127
    replace hown127 : vmw.findClass "com/example/skope/skope/xml/Intake" = some m.cls := by rw [hvw]; exact hown127
    have SI := SI127
    clear SI127
    rw [← hvw] at SI
    have LT : own_HotP Z la127 vmw := by rw [hvw]; exact LT127
    clear LT127
    obtain ⟨s, hsE⟩ : ∃ z, z = s0.setVm vmw := ⟨_, rfl⟩
    have hX : ∃ LL, Stand p l e ({ frames := 4, cells := 2, slots := 8, locals := 59 } : Room) s m #[(.ref a1), (.ref a2)] below meth c T127 LL 2 8 ∧ Fr n0 LL := ⟨_, (by rw [hsE, hvw]; exact X127), NF⟩
    clear X127 NF
    obtain ⟨LL127, X127, NF⟩ := hX
    clear hvw
    have hZ : Z.Warmed39 s.vm := by rw [hsE]; exact hZ127
    have hown : s.vm.findClass "com/example/skope/skope/xml/Intake" = some m.cls := by rw [hsE]; exact hown127
    clear hZ127 hown127
    show WP p.tables e below _ T127 (mkF m 3 #[.val (.ref a1), .val (.ref a2)] [(.ref la127), (.ref a2)])
    obtain ⟨cq128, kq128, q128a, q128b, q128c⟩ := isOf hZ e127 E_a2
    obtain ⟨_, _, ⟨T128, L128, k128, n128⟩, -, X128, ⟨Lc128, hQ128, l128, y128, z128⟩, st128⟩ := X127.virtualBack hx (y := (⟨"java/lang/String", "startsWith", "(Ljava/lang/String;)Z"⟩ : MethodName)) (z := (⟨"java/lang/String", "startsWith", "(Ljava/lang/String;)Z"⟩ : MethodName)) hown (mvT hZ (w_64 hw)) (mvT hZ (w_65 hw)) (notFace_of_selects (args := #[]) (mvT hZ (w_67 hw))) (mvT hZ (w_67 hw)) (mvT hZ (w_66 hw)) (by decide) (backOf (W := 0) (rm11 l Z a0 hw [] a2 la127 ta kb cs lb127 lk127 gC h127 n0 Z0 E_a2 F_a2_value F_a2_coder V_ta E_la127 F_la127_value F_la127_coder V_lb127 (hcs : ∀ c ∈ cs, own_byte c) (hcl : cs.length ≤ 2) OLD (O2 : Sta Z Z.heap "java/lang/String" "COMPACT_STRINGS" "Z" (.int gC)) (hz : ¬ gC = (0 : Int32))) hZ (w_68 hw) (w_6 hw) (by decide) (by decide)) q128a q128c (g := (mkF m 3 #[.val (.ref a1), .val (.ref a2)] [(.ref la127), (.ref a2)])) rfl (by rw [hml]; rfl) (Steps.refl _) (argsL := [(.ref la127)]) (rest := []) (lenOf pd_11 rfl) rfl (by show 2 * 0 + _ ≤ _; exact Nat.le_of_eq rfl) (hb hby d10_3) (fun _ _ => ⟨rfl, e127, (by decide : 2 + 0 ≤ _), (by decide : 8 + 0 ≤ _)⟩)
    dsimp only [Pt.U, Pt.locs, Pt.cells, Pt.slots] at X128 l128 y128 z128 st128 hQ128
    subst l128 y128 z128
    obtain ⟨rfl, Nq128, Kq128⟩ := hQ128
    replace NF := Fr.app NF Nq128
    clear Nq128
    refine WP.tr st128 ?_
    clear st128
    replace Kq128 := Kq128.trans (rfl : h127 = h127)
    have hXN : ∃ LL, Stand p l e ({ frames := 4, cells := 2, slots := 8, locals := 59 } : Room) s m #[(.ref a1), (.ref a2)] below meth c T128 LL 2 8 ∧ Fr n0 LL := ⟨_, X128, NF⟩
    clear X128 NF
    obtain ⟨LL129, X128, NF⟩ := hXN
    show WP p.tables e below _ T128 (mkF m 6 #[.val (.ref a1), .val (.ref a2)] [(.int (own_isP cs))])
    rw [show (own_isP cs) = (1 : Int32) from hip]
    show WP p.tables e below _ T128 (mkF m 6 #[.val (.ref a1), .val (.ref a2)] [(.int (1 : Int32))])
    refine WP.st (T' := T128) (f' := (mkF m 11 #[.val (.ref a1), .val (.ref a2)] [(.int (1 : Int32)), (.ref a1)])) (fun t k => ?_) ?_
    · refine XS.ifNo X128.here hx rfl (hb hby d10_6) rfl ((if0 _ _).trans (feq (by decide : ¬ ((1 : Int32) = (0 : Int32)))).1) ?_
      show Steps p.tables e below (T128.setTop (mkF m 9 #[.val (.ref a1), .val (.ref a2)] [])) t
      refine XS.aloadN X128.here hx rfl (hb hby d10_9) rfl rfl ?_
      show Steps p.tables e below (T128.setTop (mkF m 10 #[.val (.ref a1), .val (.ref a2)] [(.ref a1)])) t
      refine XS.iconst X128.here hx rfl (hb hby d10_10) ?_
      exact k
    obtain ⟨T130, h130, X130, e130, W130, st130⟩ := putFN X128 hx hZ hown (w_54 hw) Via.refl Kq128 F_a1_internalParameterEntity E_a1 (Or.inl (w_55 hw)) (w_38 hw) (ty := .boolean) (v := (.int (1 : Int32))) (v' := (.int (1 : Int32))) (by decide) rfl (by decide) (g := (mkF m 11 #[.val (.ref a1), .val (.ref a2)] [(.int (1 : Int32)), (.ref a1)])) rfl rfl (hb hby d10_11)
    refine WP.st st130 ?_
    clear st130
    have ne_a2_a1 : a2 ≠ a1 := Exa.ne E_a2 E_a1 (by decide)
    have ne_a1_ta : a1 ≠ ta := Exa.neArv E_a1 V_ta (w_38 hw)
    have ne_la127_a1 : la127 ≠ a1 := Exa.ne E_la127 E_a1 (by decide)
    have ne_a1_lb127 : a1 ≠ lb127 := Exa.neArv E_a1 V_lb127 (w_38 hw)
    replace E_a1 := E_a1.wr W130
    replace F_a1_internalParameterEntity := F_a1_internalParameterEntity.same W130
    replace F_a1_internalGeneralEntity := F_a1_internalGeneralEntity.other W130 (Or.inr (sn_20 hw))
    replace F_a1_attributeList := F_a1_attributeList.other W130 (Or.inr (sn_21 hw))
    replace F_a1_documentTypeDeclaration := F_a1_documentTypeDeclaration.other W130 (Or.inr (sn_22 hw))
    replace F_a1_declaringBytes := F_a1_declaringBytes.other W130 (Or.inr (sn_23 hw))
    replace F_a1_bytes := F_a1_bytes.other W130 (Or.inr (sn_24 hw))
    replace F_a1_stretch := F_a1_stretch.other W130 (Or.inr (sn_25 hw))
    replace F_a1_started := F_a1_started.other W130 (Or.inr (sn_26 hw))
    replace E_a2 := E_a2.wr W130
    replace F_a2_value := F_a2_value.other W130 (Or.inl ne_a2_a1)
    replace F_a2_coder := F_a2_coder.other W130 (Or.inl ne_a2_a1)
    replace V_ta := V_ta.other W130 (Ne.symm ne_a1_ta)
    replace OLD := OLD.wr W130 g_a1
    replace E_la127 := E_la127.wr W130
    replace F_la127_coder := F_la127_coder.other W130 (Or.inl ne_la127_a1)
    replace F_la127_value := F_la127_value.other W130 (Or.inl ne_la127_a1)
    replace V_lb127 := V_lb127.other W130 (Ne.symm ne_a1_lb127)
    replace Z0 := Nat.le_trans Z0 (Keep.of_wr W130).1
    replace W0 := Nat.le_trans W0 (Keep.of_wr W130).1
    replace KP := KP.wr W130 (Or.inl (List.mem_of_getElem? (i := 0) rfl))
    replace NF := Fr.snoc X130 NF g_a1
    clear W130
    have hXN : ∃ LL, Stand p l e ({ frames := 4, cells := 2, slots := 8, locals := 59 } : Room) s m #[(.ref a1), (.ref a2)] below meth c T130 LL 2 8 ∧ Fr n0 LL := ⟨_, X130, NF⟩
    clear X130 NF
    obtain ⟨LL131, X130, NF⟩ := hXN
    show WP p.tables e below _ T130 (mkF m 14 #[.val (.ref a1), .val (.ref a2)] [])
    refine WP.st (T' := T130) (f' := (mkF m 22 #[.val (.ref a1), .val (.ref a2)] [])) (fun t k => ?_) ?_
    · refine XS.goto X130.here hx rfl (pc0 := 14) (pc' := 22) rfl (hb hby d10_14) (by decide) (by decide) ?_
      exact k
    subst hG
    subst hsE
    obtain ⟨fs, hr, hrun, hended, hEW⟩ := X130.leaveW SI (Nat.le_trans W0 (Nat.le_of_eq (by rw [e130]))) (v := none) (fun _ => rfl)
    refine WP.fin ⟨_, _, ?_, hrun, hended, _, _, rfl, ?_, hEW.1, hEW.2.1, hEW.2.2.1, hEW.2.2.2.mono (by decide) (by decide)⟩
    · exact X130.returnOut hx Bd.returns (hb hby d10_22) hr
    · show Q10y Z a1 a2 u_internalParameterEntity u_internalGeneralEntity u_attributeList u_documentTypeDeclaration u_declaringBytes u_bytes u_stretch u_started ta kb cs gC h0 n0 _ T130.heap _ T130.vm
      rw [e130]
      exact ⟨rfl, NF, KP, F_a1_internalParameterEntity, F_a1_internalGeneralEntity, F_a1_attributeList, F_a1_documentTypeDeclaration, F_a1_declaringBytes, F_a1_bytes, F_a1_stretch, F_a1_started, (Or.inr ⟨la127, lb127, lk127, own_hotPMv (s := s0.setVm vmw) LT X130.warmed, E_la127, F_la127_coder, F_la127_value, V_lb127⟩)⟩
  · skip
    have E_la126 := Em126.1
    have F_la126_coder := Em126.2.1
    have F_la126_value := Em126.2.2.1
    have V_lb126 := Em126.2.2.2
    refine WP.st (T' := s₁) (f' := (mkF m 1 #[.val (.ref a1), .val (.ref a2)] [(.ref a2)])) (fun t k => ?_) ?_
    · refine XS.aloadN X0.here hx rfl (hb hby d10_0) rfl rfl ?_
      exact k
    have st132 := ldcAgain (s := s0) (vm0 := vmw) (a := la126) (by have q := X0; rw [hsE] at q; exact q) hx (by have q := hZ; rw [hsE] at q; exact q) (by have q := hown; rw [hsE] at q; exact q) (w_63 hw) (own_hotPLit LT) (g := (mkF m 1 #[.val (.ref a1), .val (.ref a2)] [(.ref a2)])) rfl (hb hby d10_1)
    refine WP.st st132 ?_
    clear st132
    show WP p.tables e below _ s₁ (mkF m 3 #[.val (.ref a1), .val (.ref a2)] [(.ref la126), (.ref a2)])
    obtain ⟨cq133, kq133, q133a, q133b, q133c⟩ := isOf hZ e0 E_a2
    obtain ⟨_, _, ⟨T133, L133, k133, n133⟩, -, X133, ⟨Lc133, hQ133, l133, y133, z133⟩, st133⟩ := X0.virtualBack hx (y := (⟨"java/lang/String", "startsWith", "(Ljava/lang/String;)Z"⟩ : MethodName)) (z := (⟨"java/lang/String", "startsWith", "(Ljava/lang/String;)Z"⟩ : MethodName)) hown (mvT hZ (w_64 hw)) (mvT hZ (w_65 hw)) (notFace_of_selects (args := #[]) (mvT hZ (w_67 hw))) (mvT hZ (w_67 hw)) (mvT hZ (w_66 hw)) (by decide) (backOf (W := 0) (rm11 l Z a0 hw [] a2 la126 ta kb cs lb126 lk126 gC h0 n0 Z0 E_a2 F_a2_value F_a2_coder V_ta E_la126 F_la126_value F_la126_coder V_lb126 (hcs : ∀ c ∈ cs, own_byte c) (hcl : cs.length ≤ 2) OLD (O2 : Sta Z Z.heap "java/lang/String" "COMPACT_STRINGS" "Z" (.int gC)) (hz : ¬ gC = (0 : Int32))) hZ (w_68 hw) (w_6 hw) (by decide) (by decide)) q133a q133c (g := (mkF m 3 #[.val (.ref a1), .val (.ref a2)] [(.ref la126), (.ref a2)])) rfl (by rw [hml]; rfl) (Steps.refl _) (argsL := [(.ref la126)]) (rest := []) (lenOf pd_11 rfl) rfl (by show 2 * 0 + _ ≤ _; exact Nat.le_of_eq rfl) (hb hby d10_3) (fun _ _ => ⟨rfl, e0, (by decide : 0 + 0 ≤ _), (by decide : 0 + 0 ≤ _)⟩)
    dsimp only [Pt.U, Pt.locs, Pt.cells, Pt.slots] at X133 l133 y133 z133 st133 hQ133
    subst l133 y133 z133
    obtain ⟨rfl, Nq133, Kq133⟩ := hQ133
    replace NF := Fr.app NF Nq133
    clear Nq133
    refine WP.tr st133 ?_
    clear st133
    replace Kq133 := Kq133.trans (rfl : h0 = h0)
    have hXN : ∃ LL, Stand p l e ({ frames := 4, cells := 2, slots := 8, locals := 59 } : Room) s m #[(.ref a1), (.ref a2)] below meth c T133 LL 0 0 ∧ Fr n0 LL := ⟨_, X133, NF⟩
    clear X133 NF
    obtain ⟨LL134, X133, NF⟩ := hXN
    show WP p.tables e below _ T133 (mkF m 6 #[.val (.ref a1), .val (.ref a2)] [(.int (own_isP cs))])
    rw [show (own_isP cs) = (1 : Int32) from hip]
    show WP p.tables e below _ T133 (mkF m 6 #[.val (.ref a1), .val (.ref a2)] [(.int (1 : Int32))])
    refine WP.st (T' := T133) (f' := (mkF m 11 #[.val (.ref a1), .val (.ref a2)] [(.int (1 : Int32)), (.ref a1)])) (fun t k => ?_) ?_
    · refine XS.ifNo X133.here hx rfl (hb hby d10_6) rfl ((if0 _ _).trans (feq (by decide : ¬ ((1 : Int32) = (0 : Int32)))).1) ?_
      show Steps p.tables e below (T133.setTop (mkF m 9 #[.val (.ref a1), .val (.ref a2)] [])) t
      refine XS.aloadN X133.here hx rfl (hb hby d10_9) rfl rfl ?_
      show Steps p.tables e below (T133.setTop (mkF m 10 #[.val (.ref a1), .val (.ref a2)] [(.ref a1)])) t
      refine XS.iconst X133.here hx rfl (hb hby d10_10) ?_
      exact k
    obtain ⟨T135, h135, X135, e135, W135, st135⟩ := putFN X133 hx hZ hown (w_54 hw) Via.refl Kq133 F_a1_internalParameterEntity E_a1 (Or.inl (w_55 hw)) (w_38 hw) (ty := .boolean) (v := (.int (1 : Int32))) (v' := (.int (1 : Int32))) (by decide) rfl (by decide) (g := (mkF m 11 #[.val (.ref a1), .val (.ref a2)] [(.int (1 : Int32)), (.ref a1)])) rfl rfl (hb hby d10_11)
    refine WP.st st135 ?_
    clear st135
    have ne_a2_a1 : a2 ≠ a1 := Exa.ne E_a2 E_a1 (by decide)
    have ne_a1_ta : a1 ≠ ta := Exa.neArv E_a1 V_ta (w_38 hw)
    have ne_la126_a1 : la126 ≠ a1 := Exa.ne E_la126 E_a1 (by decide)
    have ne_a1_lb126 : a1 ≠ lb126 := Exa.neArv E_a1 V_lb126 (w_38 hw)
    replace E_a1 := E_a1.wr W135
    replace F_a1_internalParameterEntity := F_a1_internalParameterEntity.same W135
    replace F_a1_internalGeneralEntity := F_a1_internalGeneralEntity.other W135 (Or.inr (sn_20 hw))
    replace F_a1_attributeList := F_a1_attributeList.other W135 (Or.inr (sn_21 hw))
    replace F_a1_documentTypeDeclaration := F_a1_documentTypeDeclaration.other W135 (Or.inr (sn_22 hw))
    replace F_a1_declaringBytes := F_a1_declaringBytes.other W135 (Or.inr (sn_23 hw))
    replace F_a1_bytes := F_a1_bytes.other W135 (Or.inr (sn_24 hw))
    replace F_a1_stretch := F_a1_stretch.other W135 (Or.inr (sn_25 hw))
    replace F_a1_started := F_a1_started.other W135 (Or.inr (sn_26 hw))
    replace E_a2 := E_a2.wr W135
    replace F_a2_value := F_a2_value.other W135 (Or.inl ne_a2_a1)
    replace F_a2_coder := F_a2_coder.other W135 (Or.inl ne_a2_a1)
    replace V_ta := V_ta.other W135 (Ne.symm ne_a1_ta)
    replace OLD := OLD.wr W135 g_a1
    replace E_la126 := E_la126.wr W135
    replace F_la126_coder := F_la126_coder.other W135 (Or.inl ne_la126_a1)
    replace F_la126_value := F_la126_value.other W135 (Or.inl ne_la126_a1)
    replace V_lb126 := V_lb126.other W135 (Ne.symm ne_a1_lb126)
    replace Z0 := Nat.le_trans Z0 (Keep.of_wr W135).1
    replace W0 := Nat.le_trans W0 (Keep.of_wr W135).1
    replace KP := KP.wr W135 (Or.inl (List.mem_of_getElem? (i := 0) rfl))
    replace NF := Fr.snoc X135 NF g_a1
    clear W135
    have hXN : ∃ LL, Stand p l e ({ frames := 4, cells := 2, slots := 8, locals := 59 } : Room) s m #[(.ref a1), (.ref a2)] below meth c T135 LL 0 0 ∧ Fr n0 LL := ⟨_, X135, NF⟩
    clear X135 NF
    obtain ⟨LL136, X135, NF⟩ := hXN
    show WP p.tables e below _ T135 (mkF m 14 #[.val (.ref a1), .val (.ref a2)] [])
    refine WP.st (T' := T135) (f' := (mkF m 22 #[.val (.ref a1), .val (.ref a2)] [])) (fun t k => ?_) ?_
    · refine XS.goto X135.here hx rfl (pc0 := 14) (pc' := 22) rfl (hb hby d10_14) (by decide) (by decide) ?_
      exact k
    subst hG
    subst hsE
    obtain ⟨fs, hr, hrun, hended, hEW⟩ := X135.leaveW SI (Nat.le_trans W0 (Nat.le_of_eq (by rw [e135]))) (v := none) (fun _ => rfl)
    refine WP.fin ⟨_, _, ?_, hrun, hended, _, _, rfl, ?_, hEW.1, hEW.2.1, hEW.2.2.1, hEW.2.2.2.mono (by decide) (by decide)⟩
    · exact X135.returnOut hx Bd.returns (hb hby d10_22) hr
    · show Q10y Z a1 a2 u_internalParameterEntity u_internalGeneralEntity u_attributeList u_documentTypeDeclaration u_declaringBytes u_bytes u_stretch u_started ta kb cs gC h0 n0 _ T135.heap _ T135.vm
      rw [e135]
      exact ⟨rfl, NF, KP, F_a1_internalParameterEntity, F_a1_internalGeneralEntity, F_a1_attributeList, F_a1_documentTypeDeclaration, F_a1_declaringBytes, F_a1_bytes, F_a1_stretch, F_a1_started, (Or.inr ⟨la126, lb126, lk126, own_hotPMv (s := s0.setVm vmw) LT X135.warmed, E_la126, F_la126_coder, F_la126_value, V_lb126⟩)⟩
theorem ef_10n (m : MethodId) (z0 : Addr) (z1 : Addr) : entryFrame m #[(.ref z0), (.ref z1)] 2 = mkF m 0 #[.val (.ref z0), .val (.ref z1)] [] := by
  all_goals first | (simp [entryFrame, mkF, argsToLocals, Value.category]; done) | rfl
theorem d10_17 : decode prog_26_method_11_code 17 = .ok (.aload_n 0, 1) := by decide +kernel
theorem d10_18 : decode prog_26_method_11_code 18 = .ok (.iconst 1, 1) := by decide +kernel
theorem d10_19 : decode prog_26_method_11_code 19 = .ok (.putfield 73, 3) := by decide +kernel
theorem sn_27 {a0 : Array Value} {Z : State} (hw : ∀ d ∈ tables_1, d.before a0 Z = true) : Jvm.RoadKit.slotOf Z "com/example/skope/skope/xml/Intake" "internalParameterEntity" "Z" ≠ Jvm.RoadKit.slotOf Z "com/example/skope/skope/xml/Intake" "internalGeneralEntity" "Z" := slot_ne (Or.inl (w_55 hw)) (Or.inl (w_57 hw)) (by decide) (t := .boolean) (t' := .boolean) (by decide) (by decide)
theorem sn_28 {a0 : Array Value} {Z : State} (hw : ∀ d ∈ tables_1, d.before a0 Z = true) : Jvm.RoadKit.slotOf Z "com/example/skope/skope/xml/Intake" "attributeList" "Z" ≠ Jvm.RoadKit.slotOf Z "com/example/skope/skope/xml/Intake" "internalGeneralEntity" "Z" := slot_ne (Or.inl (w_89 hw)) (Or.inl (w_57 hw)) (by decide) (t := .boolean) (t' := .boolean) (by decide) (by decide)
theorem sn_29 {a0 : Array Value} {Z : State} (hw : ∀ d ∈ tables_1, d.before a0 Z = true) : Jvm.RoadKit.slotOf Z "com/example/skope/skope/xml/Intake" "documentTypeDeclaration" "Z" ≠ Jvm.RoadKit.slotOf Z "com/example/skope/skope/xml/Intake" "internalGeneralEntity" "Z" := slot_ne (Or.inl (w_96 hw)) (Or.inl (w_57 hw)) (by decide) (t := .boolean) (t' := .boolean) (by decide) (by decide)
theorem sn_30 {a0 : Array Value} {Z : State} (hw : ∀ d ∈ tables_1, d.before a0 Z = true) : Jvm.RoadKit.slotOf Z "com/example/skope/skope/xml/Intake" "declaringBytes" "J" ≠ Jvm.RoadKit.slotOf Z "com/example/skope/skope/xml/Intake" "internalGeneralEntity" "Z" := slot_ne (Or.inl (w_103 hw)) (Or.inl (w_57 hw)) (by decide) (t := .long) (t' := .boolean) (by decide) (by decide)
theorem sn_31 {a0 : Array Value} {Z : State} (hw : ∀ d ∈ tables_1, d.before a0 Z = true) : Jvm.RoadKit.slotOf Z "com/example/skope/skope/xml/Intake" "bytes" "J" ≠ Jvm.RoadKit.slotOf Z "com/example/skope/skope/xml/Intake" "internalGeneralEntity" "Z" := slot_ne (Or.inl (w_105 hw)) (Or.inl (w_57 hw)) (by decide) (t := .long) (t' := .boolean) (by decide) (by decide)
theorem sn_32 {a0 : Array Value} {Z : State} (hw : ∀ d ∈ tables_1, d.before a0 Z = true) : Jvm.RoadKit.slotOf Z "com/example/skope/skope/xml/Intake" "stretch" "J" ≠ Jvm.RoadKit.slotOf Z "com/example/skope/skope/xml/Intake" "internalGeneralEntity" "Z" := slot_ne (Or.inl (w_107 hw)) (Or.inl (w_57 hw)) (by decide) (t := .long) (t' := .boolean) (by decide) (by decide)
theorem sn_33 {a0 : Array Value} {Z : State} (hw : ∀ d ∈ tables_1, d.before a0 Z = true) : Jvm.RoadKit.slotOf Z "com/example/skope/skope/xml/Intake" "started" "Z" ≠ Jvm.RoadKit.slotOf Z "com/example/skope/skope/xml/Intake" "internalGeneralEntity" "Z" := slot_ne (Or.inl (w_109 hw)) (Or.inl (w_57 hw)) (by decide) (t := .boolean) (t' := .boolean) (by decide) (by decide)
def Q10n (Z : State) (a1 : Addr) (a2 : Addr) (u_internalParameterEntity : Int32) (u_internalGeneralEntity : Int32) (u_attributeList : Int32) (u_documentTypeDeclaration : Int32) (u_declaringBytes : Int64) (u_bytes : Int64) (u_stretch : Int64) (u_started : Int32) (ta : Addr) (kb : ClassId) (cs : List Int32) (gC : Int32) (h0 : Heap) (n0 : Nat) (v : Option Value) (h : Heap) (L : List Loc) (ve : Vm) : Prop := v = none ∧ Fr n0 L ∧ Keep h0 h [a1] ∧ Fld Z h a1 "com/example/skope/skope/xml/Intake" "internalParameterEntity" "Z" (.int u_internalParameterEntity) ∧ Fld Z h a1 "com/example/skope/skope/xml/Intake" "internalGeneralEntity" "Z" (.int (1 : Int32)) ∧ Fld Z h a1 "com/example/skope/skope/xml/Intake" "attributeList" "Z" (.int u_attributeList) ∧ Fld Z h a1 "com/example/skope/skope/xml/Intake" "documentTypeDeclaration" "Z" (.int u_documentTypeDeclaration) ∧ Fld Z h a1 "com/example/skope/skope/xml/Intake" "declaringBytes" "J" (.long u_declaringBytes) ∧ Fld Z h a1 "com/example/skope/skope/xml/Intake" "bytes" "J" (.long u_bytes) ∧ Fld Z h a1 "com/example/skope/skope/xml/Intake" "stretch" "J" (.long u_stretch) ∧ Fld Z h a1 "com/example/skope/skope/xml/Intake" "started" "Z" (.int u_started) ∧ own_POK Z h ve
set_option maxRecDepth 65536 in
set_option maxHeartbeats 40000000 in
theorem rm10n (l : Launch) (Z : State) (a0 : Array Value) (hw : ∀ d ∈ tables_1, d.before a0 Z = true) (wsC : List Jvm.Cond) (a1 : Addr) (a2 : Addr) (u_internalParameterEntity : Int32) (u_internalGeneralEntity : Int32) (u_attributeList : Int32) (u_documentTypeDeclaration : Int32) (u_declaringBytes : Int64) (u_bytes : Int64) (u_stretch : Int64) (u_started : Int32) (ta : Addr) (kb : ClassId) (cs : List Int32) (gC : Int32) (h0 : Heap) (n0 : Nat) (Z0 : n0 ≤ h0.size) (E_a1 : Exa Z h0 a1 "com/example/skope/skope/xml/Intake") (g_a1 : n0 ≤ a1) (F_a1_internalParameterEntity : Fld Z h0 a1 "com/example/skope/skope/xml/Intake" "internalParameterEntity" "Z" (.int u_internalParameterEntity)) (F_a1_internalGeneralEntity : Fld Z h0 a1 "com/example/skope/skope/xml/Intake" "internalGeneralEntity" "Z" (.int u_internalGeneralEntity)) (F_a1_attributeList : Fld Z h0 a1 "com/example/skope/skope/xml/Intake" "attributeList" "Z" (.int u_attributeList)) (F_a1_documentTypeDeclaration : Fld Z h0 a1 "com/example/skope/skope/xml/Intake" "documentTypeDeclaration" "Z" (.int u_documentTypeDeclaration)) (F_a1_declaringBytes : Fld Z h0 a1 "com/example/skope/skope/xml/Intake" "declaringBytes" "J" (.long u_declaringBytes)) (F_a1_bytes : Fld Z h0 a1 "com/example/skope/skope/xml/Intake" "bytes" "J" (.long u_bytes)) (F_a1_stretch : Fld Z h0 a1 "com/example/skope/skope/xml/Intake" "stretch" "J" (.long u_stretch)) (F_a1_started : Fld Z h0 a1 "com/example/skope/skope/xml/Intake" "started" "Z" (.int u_started)) (E_a2 : Exa Z h0 a2 "java/lang/String") (F_a2_value : Fld Z h0 a2 "java/lang/String" "value" "[B" (.ref ta)) (F_a2_coder : Fld Z h0 a2 "java/lang/String" "coder" "B" (.int (0 : Int32))) (V_ta : Arv Z h0 ta kb .byte (Int32.ofNat cs.length) ((cs.map (fun c => c.toInt8.toInt32)).map Value.int) (.int (0 : Int32))) (hcs : ∀ c ∈ cs, own_byte c) (hcl : cs.length ≤ 2) (OLD : Old Z n0 h0) (O2 : Sta Z Z.heap "java/lang/String" "COMPACT_STRINGS" "Z" (.int gC)) (hz : ¬ gC = (0 : Int32)) (hCHP : Jvm.Lit.constHeld Z "com/example/skope/skope/xml/Intake" 64) (hCW : Jvm.Lit.compactW.before a0 Z = true) (hip : ¬ (own_isP cs = (1 : Int32))) :
    MetFree l (⟨"com/example/skope/skope/xml/Intake", "addInternalEntity", "(Ljava/lang/String;)V"⟩ : MethodName) (head1 (Jvm.Cond.code (⟨"com/example/skope/skope/xml/Intake", "addInternalEntity", "(Ljava/lang/String;)V"⟩ : MethodName) prog_26_method_11_code 2 none :: wsC) ({ frames := 4, cells := 2, slots := 8, locals := 59 } : Room)) (fun a U => a = #[(.ref a1), (.ref a2)] ∧ Z.Warmed39 U.vm ∧ U.heap = h0 ∧ own_POK Z h0 U.vm) (fun _ _ _ _ _ => True) (fun _ U o U' => ∃ v L, o = .returned v ∧ Q10n Z a1 a2 u_internalParameterEntity u_internalGeneralEntity u_attributeList u_documentTypeDeclaration u_declaringBytes u_bytes u_stretch u_started ta kb cs gC h0 n0 v U'.heap L U'.vm ∧ ReturnedEndW U o U' L ({ frames := 4, cells := 2, slots := 8, locals := 59 } : Room).cells ({ frames := 4, cells := 2, slots := 8, locals := 59 } : Room).slots) := by
  refine MetFree.of_bodySF (plainFor_of_name pn_4) hisR ?_
  intro p e s0 m args below meth c s₁ Bd hml0 hP hK
  obtain ⟨rfl, hZ, hh, JK⟩ := hP
  have hx := Bd.exec
  have hby := Bd.bytes
  have hml : c.maxLocals = 2 := hml0
  obtain ⟨vmw, hvw⟩ : ∃ z, z = s0.vm := ⟨_, rfl⟩
  obtain ⟨s, hsE⟩ : ∃ z, z = s0.setVm vmw := ⟨_, rfl⟩
  have SI : s0.Since vmw 0 := by rw [hvw]; exact (State.WarmedH.refl s0).since 0
  have W0 : 0 ≤ h0.size := Nat.zero_le _
  have hss : s = s0 := by rw [hsE, hvw]; rfl
  rw [← hss] at hZ
  replace JK : own_POK Z h0 vmw := by rw [hvw]; exact JK
  have hown : s.vm.findClass "com/example/skope/skope/xml/Intake" = some m.cls := by rw [hss]; exact findClass_of_methodNamed Bd.named
  have hnm := (name_of_methodNamed Bd.named Bd.method).1
  have X0 : Stand p l e ({ frames := 4, cells := 2, slots := 8, locals := 59 } : Room) s m #[(.ref a1), (.ref a2)] below meth c s₁ [] 0 0 := by rw [hss]; exact Stand.of_body Bd
  clear hss hvw
  skip
  have e0 : s₁.heap = h0 := by rw [← hh, Bd.state]; rfl
  have NF := Fr.nil n0
  have KP : Keep h0 h0 [a1] := Keep.refl h0 _
  refine WP.go ?_
  refine WP.cast (ef_10n m a1 a2) ?_
  refine WP.name ?_
  intro G hG
  rcases JK with IB0 | ⟨la137, lb137, lk137, LT, Em137⟩
  · skip
    refine WP.st (T' := s₁) (f' := (mkF m 1 #[.val (.ref a1), .val (.ref a2)] [(.ref a2)])) (fun t k => ?_) ?_
    · refine XS.aloadN X0.here hx rfl (hb hby d10_0) rfl rfl ?_
      exact k
    subst hsE
    obtain ⟨Ts138, IBx138, hnt138⟩ := own_coldPIB IB0
    obtain ⟨la138, T138, h138, kw138, lb138, lk138, X138, e138, E138, SI138, Wn138, hZ138, hown138, E_la138, F_la138_coder, F_la138_value, V_lb138, -, -, IBn138, LT138, st138⟩ := ldcSVL (s := s0) (vm0 := vmw) (Ts := Ts138) X0 hx hZ hown (w_63 hw) (own_sA hw) e0 SI W0 (Fr.nil _) (fun b cl q => by rw [hh]; exact OLD.2.2 b cl q) IBx138 hnt138.1 hCHP hCW (vs := [(.int (37 : Int32))]) (z := 1) ⟨by first | decide | (intro c hc; simp at hc), by first | rfl | decide⟩ (by decide) (by decide) (g := (mkF m 1 #[.val (.ref a1), .val (.ref a2)] [(.ref a2)])) rfl (hb hby d10_1) (n := 4) (by decide) (by decide) (by decide) (by decide)
    refine WP.st st138 ?_
    clear st138
    replace LT138 := own_hotPMk IBx138 IBn138 hnt138 LT138
    clear IBn138
    replace E_a1 := E_a1.ext E138
    replace F_a1_internalParameterEntity := F_a1_internalParameterEntity.ext E138
    replace F_a1_internalGeneralEntity := F_a1_internalGeneralEntity.ext E138
    replace F_a1_attributeList := F_a1_attributeList.ext E138
    replace F_a1_documentTypeDeclaration := F_a1_documentTypeDeclaration.ext E138
    replace F_a1_declaringBytes := F_a1_declaringBytes.ext E138
    replace F_a1_bytes := F_a1_bytes.ext E138
    replace F_a1_stretch := F_a1_stretch.ext E138
    replace F_a1_started := F_a1_started.ext E138
    replace E_a2 := E_a2.ext E138
    replace F_a2_value := F_a2_value.ext E138
    replace F_a2_coder := F_a2_coder.ext E138
    replace V_ta := V_ta.ext E138
    replace OLD := OLD.ext E138
    replace Z0 := Nat.le_trans Z0 E138.1
    replace W0 := Nat.le_trans W0 E138.1
    replace KP := KP.ext E138
    clear W0
    have W0 := Wn138
    clear Wn138
    clear hZ hown SI IB0
    obtain ⟨vmw, hvw⟩ : ∃ z, z = T138.vm := ⟨_, rfl⟩
    replace hZ138 : Z.Warmed39 vmw := by rw [hvw]; exact hZ138
    replace hown138 : vmw.findClass "com/example/skope/skope/xml/Intake" = some m.cls := by rw [hvw]; exact hown138
    have SI := SI138
    clear SI138
    rw [← hvw] at SI
    have LT : own_HotP Z la138 vmw := by rw [hvw]; exact LT138
    clear LT138
    obtain ⟨s, hsE⟩ : ∃ z, z = s0.setVm vmw := ⟨_, rfl⟩
    have hX : ∃ LL, Stand p l e ({ frames := 4, cells := 2, slots := 8, locals := 59 } : Room) s m #[(.ref a1), (.ref a2)] below meth c T138 LL 2 8 ∧ Fr n0 LL := ⟨_, (by rw [hsE, hvw]; exact X138), NF⟩
    clear X138 NF
    obtain ⟨LL138, X138, NF⟩ := hX
    clear hvw
    have hZ : Z.Warmed39 s.vm := by rw [hsE]; exact hZ138
    have hown : s.vm.findClass "com/example/skope/skope/xml/Intake" = some m.cls := by rw [hsE]; exact hown138
    clear hZ138 hown138
    show WP p.tables e below _ T138 (mkF m 3 #[.val (.ref a1), .val (.ref a2)] [(.ref la138), (.ref a2)])
    obtain ⟨cq139, kq139, q139a, q139b, q139c⟩ := isOf hZ e138 E_a2
    obtain ⟨_, _, ⟨T139, L139, k139, n139⟩, -, X139, ⟨Lc139, hQ139, l139, y139, z139⟩, st139⟩ := X138.virtualBack hx (y := (⟨"java/lang/String", "startsWith", "(Ljava/lang/String;)Z"⟩ : MethodName)) (z := (⟨"java/lang/String", "startsWith", "(Ljava/lang/String;)Z"⟩ : MethodName)) hown (mvT hZ (w_64 hw)) (mvT hZ (w_65 hw)) (notFace_of_selects (args := #[]) (mvT hZ (w_67 hw))) (mvT hZ (w_67 hw)) (mvT hZ (w_66 hw)) (by decide) (backOf (W := 0) (rm11 l Z a0 hw [] a2 la138 ta kb cs lb138 lk138 gC h138 n0 Z0 E_a2 F_a2_value F_a2_coder V_ta E_la138 F_la138_value F_la138_coder V_lb138 (hcs : ∀ c ∈ cs, own_byte c) (hcl : cs.length ≤ 2) OLD (O2 : Sta Z Z.heap "java/lang/String" "COMPACT_STRINGS" "Z" (.int gC)) (hz : ¬ gC = (0 : Int32))) hZ (w_68 hw) (w_6 hw) (by decide) (by decide)) q139a q139c (g := (mkF m 3 #[.val (.ref a1), .val (.ref a2)] [(.ref la138), (.ref a2)])) rfl (by rw [hml]; rfl) (Steps.refl _) (argsL := [(.ref la138)]) (rest := []) (lenOf pd_11 rfl) rfl (by show 2 * 0 + _ ≤ _; exact Nat.le_of_eq rfl) (hb hby d10_3) (fun _ _ => ⟨rfl, e138, (by decide : 2 + 0 ≤ _), (by decide : 8 + 0 ≤ _)⟩)
    dsimp only [Pt.U, Pt.locs, Pt.cells, Pt.slots] at X139 l139 y139 z139 st139 hQ139
    subst l139 y139 z139
    obtain ⟨rfl, Nq139, Kq139⟩ := hQ139
    replace NF := Fr.app NF Nq139
    clear Nq139
    refine WP.tr st139 ?_
    clear st139
    replace Kq139 := Kq139.trans (rfl : h138 = h138)
    have hXN : ∃ LL, Stand p l e ({ frames := 4, cells := 2, slots := 8, locals := 59 } : Room) s m #[(.ref a1), (.ref a2)] below meth c T139 LL 2 8 ∧ Fr n0 LL := ⟨_, X139, NF⟩
    clear X139 NF
    obtain ⟨LL140, X139, NF⟩ := hXN
    show WP p.tables e below _ T139 (mkF m 6 #[.val (.ref a1), .val (.ref a2)] [(.int (own_isP cs))])
    rw [show (own_isP cs) = (0 : Int32) from own_isP_n hip]
    show WP p.tables e below _ T139 (mkF m 6 #[.val (.ref a1), .val (.ref a2)] [(.int (0 : Int32))])
    refine WP.st (T' := T139) (f' := (mkF m 19 #[.val (.ref a1), .val (.ref a2)] [(.int (1 : Int32)), (.ref a1)])) (fun t k => ?_) ?_
    · refine XS.ifYes X139.here hx rfl (pc0 := 6) (pc' := 17) rfl (hb hby d10_6) rfl ((if0 _ _).trans (teq (by decide : (0 : Int32) = (0 : Int32))).1) (by decide) (by decide) ?_
      show Steps p.tables e below (T139.setTop (mkF m 17 #[.val (.ref a1), .val (.ref a2)] [])) t
      refine XS.aloadN X139.here hx rfl (hb hby d10_17) rfl rfl ?_
      show Steps p.tables e below (T139.setTop (mkF m 18 #[.val (.ref a1), .val (.ref a2)] [(.ref a1)])) t
      refine XS.iconst X139.here hx rfl (hb hby d10_18) ?_
      exact k
    obtain ⟨T141, h141, X141, e141, W141, st141⟩ := putFN X139 hx hZ hown (w_56 hw) Via.refl Kq139 F_a1_internalGeneralEntity E_a1 (Or.inl (w_57 hw)) (w_38 hw) (ty := .boolean) (v := (.int (1 : Int32))) (v' := (.int (1 : Int32))) (by decide) rfl (by decide) (g := (mkF m 19 #[.val (.ref a1), .val (.ref a2)] [(.int (1 : Int32)), (.ref a1)])) rfl rfl (hb hby d10_19)
    refine WP.st st141 ?_
    clear st141
    have ne_a2_a1 : a2 ≠ a1 := Exa.ne E_a2 E_a1 (by decide)
    have ne_a1_ta : a1 ≠ ta := Exa.neArv E_a1 V_ta (w_38 hw)
    have ne_la138_a1 : la138 ≠ a1 := Exa.ne E_la138 E_a1 (by decide)
    have ne_a1_lb138 : a1 ≠ lb138 := Exa.neArv E_a1 V_lb138 (w_38 hw)
    replace E_a1 := E_a1.wr W141
    replace F_a1_internalParameterEntity := F_a1_internalParameterEntity.other W141 (Or.inr (sn_27 hw))
    replace F_a1_internalGeneralEntity := F_a1_internalGeneralEntity.same W141
    replace F_a1_attributeList := F_a1_attributeList.other W141 (Or.inr (sn_28 hw))
    replace F_a1_documentTypeDeclaration := F_a1_documentTypeDeclaration.other W141 (Or.inr (sn_29 hw))
    replace F_a1_declaringBytes := F_a1_declaringBytes.other W141 (Or.inr (sn_30 hw))
    replace F_a1_bytes := F_a1_bytes.other W141 (Or.inr (sn_31 hw))
    replace F_a1_stretch := F_a1_stretch.other W141 (Or.inr (sn_32 hw))
    replace F_a1_started := F_a1_started.other W141 (Or.inr (sn_33 hw))
    replace E_a2 := E_a2.wr W141
    replace F_a2_value := F_a2_value.other W141 (Or.inl ne_a2_a1)
    replace F_a2_coder := F_a2_coder.other W141 (Or.inl ne_a2_a1)
    replace V_ta := V_ta.other W141 (Ne.symm ne_a1_ta)
    replace OLD := OLD.wr W141 g_a1
    replace E_la138 := E_la138.wr W141
    replace F_la138_coder := F_la138_coder.other W141 (Or.inl ne_la138_a1)
    replace F_la138_value := F_la138_value.other W141 (Or.inl ne_la138_a1)
    replace V_lb138 := V_lb138.other W141 (Ne.symm ne_a1_lb138)
    replace Z0 := Nat.le_trans Z0 (Keep.of_wr W141).1
    replace W0 := Nat.le_trans W0 (Keep.of_wr W141).1
    replace KP := KP.wr W141 (Or.inl (List.mem_of_getElem? (i := 0) rfl))
    replace NF := Fr.snoc X141 NF g_a1
    clear W141
    have hXN : ∃ LL, Stand p l e ({ frames := 4, cells := 2, slots := 8, locals := 59 } : Room) s m #[(.ref a1), (.ref a2)] below meth c T141 LL 2 8 ∧ Fr n0 LL := ⟨_, X141, NF⟩
    clear X141 NF
    obtain ⟨LL142, X141, NF⟩ := hXN
    show WP p.tables e below _ T141 (mkF m 22 #[.val (.ref a1), .val (.ref a2)] [])
    subst hG
    subst hsE
    obtain ⟨fs, hr, hrun, hended, hEW⟩ := X141.leaveW SI (Nat.le_trans W0 (Nat.le_of_eq (by rw [e141]))) (v := none) (fun _ => rfl)
    refine WP.fin ⟨_, _, ?_, hrun, hended, _, _, rfl, ?_, hEW.1, hEW.2.1, hEW.2.2.1, hEW.2.2.2.mono (by decide) (by decide)⟩
    · exact X141.returnOut hx Bd.returns (hb hby d10_22) hr
    · show Q10n Z a1 a2 u_internalParameterEntity u_internalGeneralEntity u_attributeList u_documentTypeDeclaration u_declaringBytes u_bytes u_stretch u_started ta kb cs gC h0 n0 _ T141.heap _ T141.vm
      rw [e141]
      exact ⟨rfl, NF, KP, F_a1_internalParameterEntity, F_a1_internalGeneralEntity, F_a1_attributeList, F_a1_documentTypeDeclaration, F_a1_declaringBytes, F_a1_bytes, F_a1_stretch, F_a1_started, (Or.inr ⟨la138, lb138, lk138, own_hotPMv (s := s0.setVm vmw) LT X141.warmed, E_la138, F_la138_coder, F_la138_value, V_lb138⟩)⟩
  · skip
    have E_la137 := Em137.1
    have F_la137_coder := Em137.2.1
    have F_la137_value := Em137.2.2.1
    have V_lb137 := Em137.2.2.2
    refine WP.st (T' := s₁) (f' := (mkF m 1 #[.val (.ref a1), .val (.ref a2)] [(.ref a2)])) (fun t k => ?_) ?_
    · refine XS.aloadN X0.here hx rfl (hb hby d10_0) rfl rfl ?_
      exact k
    have st143 := ldcAgain (s := s0) (vm0 := vmw) (a := la137) (by have q := X0; rw [hsE] at q; exact q) hx (by have q := hZ; rw [hsE] at q; exact q) (by have q := hown; rw [hsE] at q; exact q) (w_63 hw) (own_hotPLit LT) (g := (mkF m 1 #[.val (.ref a1), .val (.ref a2)] [(.ref a2)])) rfl (hb hby d10_1)
    refine WP.st st143 ?_
    clear st143
    show WP p.tables e below _ s₁ (mkF m 3 #[.val (.ref a1), .val (.ref a2)] [(.ref la137), (.ref a2)])
    obtain ⟨cq144, kq144, q144a, q144b, q144c⟩ := isOf hZ e0 E_a2
    obtain ⟨_, _, ⟨T144, L144, k144, n144⟩, -, X144, ⟨Lc144, hQ144, l144, y144, z144⟩, st144⟩ := X0.virtualBack hx (y := (⟨"java/lang/String", "startsWith", "(Ljava/lang/String;)Z"⟩ : MethodName)) (z := (⟨"java/lang/String", "startsWith", "(Ljava/lang/String;)Z"⟩ : MethodName)) hown (mvT hZ (w_64 hw)) (mvT hZ (w_65 hw)) (notFace_of_selects (args := #[]) (mvT hZ (w_67 hw))) (mvT hZ (w_67 hw)) (mvT hZ (w_66 hw)) (by decide) (backOf (W := 0) (rm11 l Z a0 hw [] a2 la137 ta kb cs lb137 lk137 gC h0 n0 Z0 E_a2 F_a2_value F_a2_coder V_ta E_la137 F_la137_value F_la137_coder V_lb137 (hcs : ∀ c ∈ cs, own_byte c) (hcl : cs.length ≤ 2) OLD (O2 : Sta Z Z.heap "java/lang/String" "COMPACT_STRINGS" "Z" (.int gC)) (hz : ¬ gC = (0 : Int32))) hZ (w_68 hw) (w_6 hw) (by decide) (by decide)) q144a q144c (g := (mkF m 3 #[.val (.ref a1), .val (.ref a2)] [(.ref la137), (.ref a2)])) rfl (by rw [hml]; rfl) (Steps.refl _) (argsL := [(.ref la137)]) (rest := []) (lenOf pd_11 rfl) rfl (by show 2 * 0 + _ ≤ _; exact Nat.le_of_eq rfl) (hb hby d10_3) (fun _ _ => ⟨rfl, e0, (by decide : 0 + 0 ≤ _), (by decide : 0 + 0 ≤ _)⟩)
    dsimp only [Pt.U, Pt.locs, Pt.cells, Pt.slots] at X144 l144 y144 z144 st144 hQ144
    subst l144 y144 z144
    obtain ⟨rfl, Nq144, Kq144⟩ := hQ144
    replace NF := Fr.app NF Nq144
    clear Nq144
    refine WP.tr st144 ?_
    clear st144
    replace Kq144 := Kq144.trans (rfl : h0 = h0)
    have hXN : ∃ LL, Stand p l e ({ frames := 4, cells := 2, slots := 8, locals := 59 } : Room) s m #[(.ref a1), (.ref a2)] below meth c T144 LL 0 0 ∧ Fr n0 LL := ⟨_, X144, NF⟩
    clear X144 NF
    obtain ⟨LL145, X144, NF⟩ := hXN
    show WP p.tables e below _ T144 (mkF m 6 #[.val (.ref a1), .val (.ref a2)] [(.int (own_isP cs))])
    rw [show (own_isP cs) = (0 : Int32) from own_isP_n hip]
    show WP p.tables e below _ T144 (mkF m 6 #[.val (.ref a1), .val (.ref a2)] [(.int (0 : Int32))])
    refine WP.st (T' := T144) (f' := (mkF m 19 #[.val (.ref a1), .val (.ref a2)] [(.int (1 : Int32)), (.ref a1)])) (fun t k => ?_) ?_
    · refine XS.ifYes X144.here hx rfl (pc0 := 6) (pc' := 17) rfl (hb hby d10_6) rfl ((if0 _ _).trans (teq (by decide : (0 : Int32) = (0 : Int32))).1) (by decide) (by decide) ?_
      show Steps p.tables e below (T144.setTop (mkF m 17 #[.val (.ref a1), .val (.ref a2)] [])) t
      refine XS.aloadN X144.here hx rfl (hb hby d10_17) rfl rfl ?_
      show Steps p.tables e below (T144.setTop (mkF m 18 #[.val (.ref a1), .val (.ref a2)] [(.ref a1)])) t
      refine XS.iconst X144.here hx rfl (hb hby d10_18) ?_
      exact k
    obtain ⟨T146, h146, X146, e146, W146, st146⟩ := putFN X144 hx hZ hown (w_56 hw) Via.refl Kq144 F_a1_internalGeneralEntity E_a1 (Or.inl (w_57 hw)) (w_38 hw) (ty := .boolean) (v := (.int (1 : Int32))) (v' := (.int (1 : Int32))) (by decide) rfl (by decide) (g := (mkF m 19 #[.val (.ref a1), .val (.ref a2)] [(.int (1 : Int32)), (.ref a1)])) rfl rfl (hb hby d10_19)
    refine WP.st st146 ?_
    clear st146
    have ne_a2_a1 : a2 ≠ a1 := Exa.ne E_a2 E_a1 (by decide)
    have ne_a1_ta : a1 ≠ ta := Exa.neArv E_a1 V_ta (w_38 hw)
    have ne_la137_a1 : la137 ≠ a1 := Exa.ne E_la137 E_a1 (by decide)
    have ne_a1_lb137 : a1 ≠ lb137 := Exa.neArv E_a1 V_lb137 (w_38 hw)
    replace E_a1 := E_a1.wr W146
    replace F_a1_internalParameterEntity := F_a1_internalParameterEntity.other W146 (Or.inr (sn_27 hw))
    replace F_a1_internalGeneralEntity := F_a1_internalGeneralEntity.same W146
    replace F_a1_attributeList := F_a1_attributeList.other W146 (Or.inr (sn_28 hw))
    replace F_a1_documentTypeDeclaration := F_a1_documentTypeDeclaration.other W146 (Or.inr (sn_29 hw))
    replace F_a1_declaringBytes := F_a1_declaringBytes.other W146 (Or.inr (sn_30 hw))
    replace F_a1_bytes := F_a1_bytes.other W146 (Or.inr (sn_31 hw))
    replace F_a1_stretch := F_a1_stretch.other W146 (Or.inr (sn_32 hw))
    replace F_a1_started := F_a1_started.other W146 (Or.inr (sn_33 hw))
    replace E_a2 := E_a2.wr W146
    replace F_a2_value := F_a2_value.other W146 (Or.inl ne_a2_a1)
    replace F_a2_coder := F_a2_coder.other W146 (Or.inl ne_a2_a1)
    replace V_ta := V_ta.other W146 (Ne.symm ne_a1_ta)
    replace OLD := OLD.wr W146 g_a1
    replace E_la137 := E_la137.wr W146
    replace F_la137_coder := F_la137_coder.other W146 (Or.inl ne_la137_a1)
    replace F_la137_value := F_la137_value.other W146 (Or.inl ne_la137_a1)
    replace V_lb137 := V_lb137.other W146 (Ne.symm ne_a1_lb137)
    replace Z0 := Nat.le_trans Z0 (Keep.of_wr W146).1
    replace W0 := Nat.le_trans W0 (Keep.of_wr W146).1
    replace KP := KP.wr W146 (Or.inl (List.mem_of_getElem? (i := 0) rfl))
    replace NF := Fr.snoc X146 NF g_a1
    clear W146
    have hXN : ∃ LL, Stand p l e ({ frames := 4, cells := 2, slots := 8, locals := 59 } : Room) s m #[(.ref a1), (.ref a2)] below meth c T146 LL 0 0 ∧ Fr n0 LL := ⟨_, X146, NF⟩
    clear X146 NF
    obtain ⟨LL147, X146, NF⟩ := hXN
    show WP p.tables e below _ T146 (mkF m 22 #[.val (.ref a1), .val (.ref a2)] [])
    subst hG
    subst hsE
    obtain ⟨fs, hr, hrun, hended, hEW⟩ := X146.leaveW SI (Nat.le_trans W0 (Nat.le_of_eq (by rw [e146]))) (v := none) (fun _ => rfl)
    refine WP.fin ⟨_, _, ?_, hrun, hended, _, _, rfl, ?_, hEW.1, hEW.2.1, hEW.2.2.1, hEW.2.2.2.mono (by decide) (by decide)⟩
    · exact X146.returnOut hx Bd.returns (hb hby d10_22) hr
    · show Q10n Z a1 a2 u_internalParameterEntity u_internalGeneralEntity u_attributeList u_documentTypeDeclaration u_declaringBytes u_bytes u_stretch u_started ta kb cs gC h0 n0 _ T146.heap _ T146.vm
      rw [e146]
      exact ⟨rfl, NF, KP, F_a1_internalParameterEntity, F_a1_internalGeneralEntity, F_a1_attributeList, F_a1_documentTypeDeclaration, F_a1_declaringBytes, F_a1_bytes, F_a1_stretch, F_a1_started, (Or.inr ⟨la137, lb137, lk137, own_hotPMv (s := s0.setVm vmw) LT X146.warmed, E_la137, F_la137_coder, F_la137_value, V_lb137⟩)⟩
theorem ef_22 (m : MethodId) (z0 : Addr) : entryFrame m #[(.ref z0)] 1 = mkF m 0 #[.val (.ref z0)] [] := by
  all_goals first | (simp [entryFrame, mkF, argsToLocals, Value.category]; done) | rfl
theorem d22_0 : decode prog_26_method_12_code 0 = .ok (.aload_n 0, 1) := by decide +kernel
theorem d22_1 : decode prog_26_method_12_code 1 = .ok (.iconst 1, 1) := by decide +kernel
theorem d22_2 : decode prog_26_method_12_code 2 = .ok (.putfield 76, 3) := by decide +kernel
theorem sn_34 {a0 : Array Value} {Z : State} (hw : ∀ d ∈ tables_1, d.before a0 Z = true) : Jvm.RoadKit.slotOf Z "com/example/skope/skope/xml/Intake" "internalParameterEntity" "Z" ≠ Jvm.RoadKit.slotOf Z "com/example/skope/skope/xml/Intake" "attributeList" "Z" := slot_ne (Or.inl (w_55 hw)) (Or.inl (w_89 hw)) (by decide) (t := .boolean) (t' := .boolean) (by decide) (by decide)
theorem sn_35 {a0 : Array Value} {Z : State} (hw : ∀ d ∈ tables_1, d.before a0 Z = true) : Jvm.RoadKit.slotOf Z "com/example/skope/skope/xml/Intake" "internalGeneralEntity" "Z" ≠ Jvm.RoadKit.slotOf Z "com/example/skope/skope/xml/Intake" "attributeList" "Z" := slot_ne (Or.inl (w_57 hw)) (Or.inl (w_89 hw)) (by decide) (t := .boolean) (t' := .boolean) (by decide) (by decide)
theorem sn_36 {a0 : Array Value} {Z : State} (hw : ∀ d ∈ tables_1, d.before a0 Z = true) : Jvm.RoadKit.slotOf Z "com/example/skope/skope/xml/Intake" "documentTypeDeclaration" "Z" ≠ Jvm.RoadKit.slotOf Z "com/example/skope/skope/xml/Intake" "attributeList" "Z" := slot_ne (Or.inl (w_96 hw)) (Or.inl (w_89 hw)) (by decide) (t := .boolean) (t' := .boolean) (by decide) (by decide)
theorem sn_37 {a0 : Array Value} {Z : State} (hw : ∀ d ∈ tables_1, d.before a0 Z = true) : Jvm.RoadKit.slotOf Z "com/example/skope/skope/xml/Intake" "declaringBytes" "J" ≠ Jvm.RoadKit.slotOf Z "com/example/skope/skope/xml/Intake" "attributeList" "Z" := slot_ne (Or.inl (w_103 hw)) (Or.inl (w_89 hw)) (by decide) (t := .long) (t' := .boolean) (by decide) (by decide)
theorem sn_38 {a0 : Array Value} {Z : State} (hw : ∀ d ∈ tables_1, d.before a0 Z = true) : Jvm.RoadKit.slotOf Z "com/example/skope/skope/xml/Intake" "bytes" "J" ≠ Jvm.RoadKit.slotOf Z "com/example/skope/skope/xml/Intake" "attributeList" "Z" := slot_ne (Or.inl (w_105 hw)) (Or.inl (w_89 hw)) (by decide) (t := .long) (t' := .boolean) (by decide) (by decide)
theorem sn_39 {a0 : Array Value} {Z : State} (hw : ∀ d ∈ tables_1, d.before a0 Z = true) : Jvm.RoadKit.slotOf Z "com/example/skope/skope/xml/Intake" "stretch" "J" ≠ Jvm.RoadKit.slotOf Z "com/example/skope/skope/xml/Intake" "attributeList" "Z" := slot_ne (Or.inl (w_107 hw)) (Or.inl (w_89 hw)) (by decide) (t := .long) (t' := .boolean) (by decide) (by decide)
theorem sn_40 {a0 : Array Value} {Z : State} (hw : ∀ d ∈ tables_1, d.before a0 Z = true) : Jvm.RoadKit.slotOf Z "com/example/skope/skope/xml/Intake" "started" "Z" ≠ Jvm.RoadKit.slotOf Z "com/example/skope/skope/xml/Intake" "attributeList" "Z" := slot_ne (Or.inl (w_109 hw)) (Or.inl (w_89 hw)) (by decide) (t := .boolean) (t' := .boolean) (by decide) (by decide)
theorem d22_5 : decode prog_26_method_12_code 5 = .ok (.return_, 1) := by decide +kernel
def Q22 (Z : State) (a1 : Addr) (u_internalParameterEntity : Int32) (u_internalGeneralEntity : Int32) (u_attributeList : Int32) (u_documentTypeDeclaration : Int32) (u_declaringBytes : Int64) (u_bytes : Int64) (u_stretch : Int64) (u_started : Int32) (h0 : Heap) (n0 : Nat) (v : Option Value) (h : Heap) (L : List Loc) : Prop := v = none ∧ Fr n0 L ∧ Keep h0 h [a1] ∧ Fld Z h a1 "com/example/skope/skope/xml/Intake" "internalParameterEntity" "Z" (.int u_internalParameterEntity) ∧ Fld Z h a1 "com/example/skope/skope/xml/Intake" "internalGeneralEntity" "Z" (.int u_internalGeneralEntity) ∧ Fld Z h a1 "com/example/skope/skope/xml/Intake" "attributeList" "Z" (.int (1 : Int32)) ∧ Fld Z h a1 "com/example/skope/skope/xml/Intake" "documentTypeDeclaration" "Z" (.int u_documentTypeDeclaration) ∧ Fld Z h a1 "com/example/skope/skope/xml/Intake" "declaringBytes" "J" (.long u_declaringBytes) ∧ Fld Z h a1 "com/example/skope/skope/xml/Intake" "bytes" "J" (.long u_bytes) ∧ Fld Z h a1 "com/example/skope/skope/xml/Intake" "stretch" "J" (.long u_stretch) ∧ Fld Z h a1 "com/example/skope/skope/xml/Intake" "started" "Z" (.int u_started)
set_option maxRecDepth 65536 in
set_option maxHeartbeats 40000000 in
theorem rm22 (l : Launch) (Z : State) (a0 : Array Value) (hw : ∀ d ∈ tables_1, d.before a0 Z = true) (wsC : List Jvm.Cond) (a1 : Addr) (u_internalParameterEntity : Int32) (u_internalGeneralEntity : Int32) (u_attributeList : Int32) (u_documentTypeDeclaration : Int32) (u_declaringBytes : Int64) (u_bytes : Int64) (u_stretch : Int64) (u_started : Int32) (h0 : Heap) (n0 : Nat) (Z0 : n0 ≤ h0.size) (E_a1 : Exa Z h0 a1 "com/example/skope/skope/xml/Intake") (g_a1 : n0 ≤ a1) (F_a1_internalParameterEntity : Fld Z h0 a1 "com/example/skope/skope/xml/Intake" "internalParameterEntity" "Z" (.int u_internalParameterEntity)) (F_a1_internalGeneralEntity : Fld Z h0 a1 "com/example/skope/skope/xml/Intake" "internalGeneralEntity" "Z" (.int u_internalGeneralEntity)) (F_a1_attributeList : Fld Z h0 a1 "com/example/skope/skope/xml/Intake" "attributeList" "Z" (.int u_attributeList)) (F_a1_documentTypeDeclaration : Fld Z h0 a1 "com/example/skope/skope/xml/Intake" "documentTypeDeclaration" "Z" (.int u_documentTypeDeclaration)) (F_a1_declaringBytes : Fld Z h0 a1 "com/example/skope/skope/xml/Intake" "declaringBytes" "J" (.long u_declaringBytes)) (F_a1_bytes : Fld Z h0 a1 "com/example/skope/skope/xml/Intake" "bytes" "J" (.long u_bytes)) (F_a1_stretch : Fld Z h0 a1 "com/example/skope/skope/xml/Intake" "stretch" "J" (.long u_stretch)) (F_a1_started : Fld Z h0 a1 "com/example/skope/skope/xml/Intake" "started" "Z" (.int u_started)) :
    MetFree l (⟨"com/example/skope/skope/xml/Intake", "addAttributeList", "()V"⟩ : MethodName) (head1 (Jvm.Cond.code (⟨"com/example/skope/skope/xml/Intake", "addAttributeList", "()V"⟩ : MethodName) prog_26_method_12_code 1 none :: wsC) ({ frames := 0, cells := 0, slots := 0, locals := 0 } : Room)) (fun a U => a = #[(.ref a1)] ∧ Z.Warmed39 U.vm ∧ U.heap = h0) (fun _ _ _ _ _ => True) (fun _ U o U' => ∃ v L, o = .returned v ∧ Q22 Z a1 u_internalParameterEntity u_internalGeneralEntity u_attributeList u_documentTypeDeclaration u_declaringBytes u_bytes u_stretch u_started h0 n0 v U'.heap L ∧ FrameEnd U o U' L ({ frames := 0, cells := 0, slots := 0, locals := 0 } : Room).cells ({ frames := 0, cells := 0, slots := 0, locals := 0 } : Room).slots) := by
  refine MetFree.of_bodySF (plainFor_of_name pn_4) hisR ?_
  intro p e s m args below meth c s₁ Bd hml0 hP hK
  obtain ⟨rfl, hZ, hh⟩ := hP
  have hx := Bd.exec
  have hby := Bd.bytes
  have hml : c.maxLocals = 1 := hml0
  have hown : s.vm.findClass "com/example/skope/skope/xml/Intake" = some m.cls := findClass_of_methodNamed Bd.named
  have hnm := (name_of_methodNamed Bd.named Bd.method).1
  have X0 : Stand p l e ({ frames := 0, cells := 0, slots := 0, locals := 0 } : Room) s m #[(.ref a1)] below meth c s₁ [] 0 0 := Stand.of_body Bd
  skip
  have e0 : s₁.heap = h0 := by rw [← hh, Bd.state]; rfl
  have NF := Fr.nil n0
  have KP : Keep h0 h0 [a1] := Keep.refl h0 _
  refine WP.go ?_
  refine WP.cast (ef_22 m a1) ?_
  refine WP.name ?_
  intro G hG
  refine WP.st (T' := s₁) (f' := (mkF m 2 #[.val (.ref a1)] [(.int (1 : Int32)), (.ref a1)])) (fun t k => ?_) ?_
  · refine XS.aloadN X0.here hx rfl (hb hby d22_0) rfl rfl ?_
    show Steps p.tables e below (s₁.setTop (mkF m 1 #[.val (.ref a1)] [(.ref a1)])) t
    refine XS.iconst X0.here hx rfl (hb hby d22_1) ?_
    exact k
  obtain ⟨T148, h148, X148, e148, W148, st148⟩ := putFN X0 hx hZ hown (w_88 hw) Via.refl e0 F_a1_attributeList E_a1 (Or.inl (w_89 hw)) (w_38 hw) (ty := .boolean) (v := (.int (1 : Int32))) (v' := (.int (1 : Int32))) (by decide) rfl (by decide) (g := (mkF m 2 #[.val (.ref a1)] [(.int (1 : Int32)), (.ref a1)])) rfl rfl (hb hby d22_2)
  refine WP.st st148 ?_
  clear st148
  replace E_a1 := E_a1.wr W148
  replace F_a1_internalParameterEntity := F_a1_internalParameterEntity.other W148 (Or.inr (sn_34 hw))
  replace F_a1_internalGeneralEntity := F_a1_internalGeneralEntity.other W148 (Or.inr (sn_35 hw))
  replace F_a1_attributeList := F_a1_attributeList.same W148
  replace F_a1_documentTypeDeclaration := F_a1_documentTypeDeclaration.other W148 (Or.inr (sn_36 hw))
  replace F_a1_declaringBytes := F_a1_declaringBytes.other W148 (Or.inr (sn_37 hw))
  replace F_a1_bytes := F_a1_bytes.other W148 (Or.inr (sn_38 hw))
  replace F_a1_stretch := F_a1_stretch.other W148 (Or.inr (sn_39 hw))
  replace F_a1_started := F_a1_started.other W148 (Or.inr (sn_40 hw))
  replace Z0 := Nat.le_trans Z0 (Keep.of_wr W148).1
  replace KP := KP.wr W148 (Or.inl (List.mem_of_getElem? (i := 0) rfl))
  replace NF := Fr.snoc X148 NF g_a1
  clear W148
  have hXN : ∃ LL, Stand p l e ({ frames := 0, cells := 0, slots := 0, locals := 0 } : Room) s m #[(.ref a1)] below meth c T148 LL 0 0 ∧ Fr n0 LL := ⟨_, X148, NF⟩
  clear X148 NF
  obtain ⟨LL149, X148, NF⟩ := hXN
  show WP p.tables e below _ T148 (mkF m 5 #[.val (.ref a1)] [])
  subst hG
  obtain ⟨fs, hr, hrun, hended, hW, hsame⟩ := X148.leave (v := none) (fun _ => rfl)
  refine WP.fin ⟨_, _, ?_, hrun, hended, _, _, rfl, ?_, ⟨_, rfl⟩, hW, hsame.mono (by decide) (by decide)⟩
  · exact X148.returnOut hx Bd.returns (hb hby d22_5) hr
  · show Q22 Z a1 u_internalParameterEntity u_internalGeneralEntity u_attributeList u_documentTypeDeclaration u_declaringBytes u_bytes u_stretch u_started h0 n0 _ T148.heap _
    rw [e148]
    exact ⟨rfl, NF, KP, F_a1_internalParameterEntity, F_a1_internalGeneralEntity, F_a1_attributeList, F_a1_documentTypeDeclaration, F_a1_declaringBytes, F_a1_bytes, F_a1_stretch, F_a1_started⟩
theorem ef_16 (m : MethodId) (z0 : Addr) : entryFrame m #[(.ref z0)] 1 = mkF m 0 #[.val (.ref z0)] [] := by
  all_goals first | (simp [entryFrame, mkF, argsToLocals, Value.category]; done) | rfl
theorem d16_0 : decode prog_26_method_14_code 0 = .ok (.aload_n 0, 1) := by decide +kernel
theorem d16_1 : decode prog_26_method_14_code 1 = .ok (.iconst 1, 1) := by decide +kernel
theorem w_95 {a0 : Array Value} {Z : State} (hw : ∀ d ∈ tables_1, d.before a0 Z = true) : (Jvm.Cond.fieldLink "com/example/skope/skope/xml/Intake" (79 : Nat) "com/example/skope/skope/xml/Intake" "documentTypeDeclaration" "Z").before a0 Z = true := hw _ (List.mem_of_getElem? (i := 95) rfl)
theorem d16_2 : decode prog_26_method_14_code 2 = .ok (.putfield 79, 3) := by decide +kernel
theorem sn_41 {a0 : Array Value} {Z : State} (hw : ∀ d ∈ tables_1, d.before a0 Z = true) : Jvm.RoadKit.slotOf Z "com/example/skope/skope/xml/Intake" "internalParameterEntity" "Z" ≠ Jvm.RoadKit.slotOf Z "com/example/skope/skope/xml/Intake" "documentTypeDeclaration" "Z" := slot_ne (Or.inl (w_55 hw)) (Or.inl (w_96 hw)) (by decide) (t := .boolean) (t' := .boolean) (by decide) (by decide)
theorem sn_42 {a0 : Array Value} {Z : State} (hw : ∀ d ∈ tables_1, d.before a0 Z = true) : Jvm.RoadKit.slotOf Z "com/example/skope/skope/xml/Intake" "internalGeneralEntity" "Z" ≠ Jvm.RoadKit.slotOf Z "com/example/skope/skope/xml/Intake" "documentTypeDeclaration" "Z" := slot_ne (Or.inl (w_57 hw)) (Or.inl (w_96 hw)) (by decide) (t := .boolean) (t' := .boolean) (by decide) (by decide)
theorem sn_43 {a0 : Array Value} {Z : State} (hw : ∀ d ∈ tables_1, d.before a0 Z = true) : Jvm.RoadKit.slotOf Z "com/example/skope/skope/xml/Intake" "attributeList" "Z" ≠ Jvm.RoadKit.slotOf Z "com/example/skope/skope/xml/Intake" "documentTypeDeclaration" "Z" := slot_ne (Or.inl (w_89 hw)) (Or.inl (w_96 hw)) (by decide) (t := .boolean) (t' := .boolean) (by decide) (by decide)
theorem sn_44 {a0 : Array Value} {Z : State} (hw : ∀ d ∈ tables_1, d.before a0 Z = true) : Jvm.RoadKit.slotOf Z "com/example/skope/skope/xml/Intake" "declaringBytes" "J" ≠ Jvm.RoadKit.slotOf Z "com/example/skope/skope/xml/Intake" "documentTypeDeclaration" "Z" := slot_ne (Or.inl (w_103 hw)) (Or.inl (w_96 hw)) (by decide) (t := .long) (t' := .boolean) (by decide) (by decide)
theorem sn_45 {a0 : Array Value} {Z : State} (hw : ∀ d ∈ tables_1, d.before a0 Z = true) : Jvm.RoadKit.slotOf Z "com/example/skope/skope/xml/Intake" "bytes" "J" ≠ Jvm.RoadKit.slotOf Z "com/example/skope/skope/xml/Intake" "documentTypeDeclaration" "Z" := slot_ne (Or.inl (w_105 hw)) (Or.inl (w_96 hw)) (by decide) (t := .long) (t' := .boolean) (by decide) (by decide)
theorem sn_46 {a0 : Array Value} {Z : State} (hw : ∀ d ∈ tables_1, d.before a0 Z = true) : Jvm.RoadKit.slotOf Z "com/example/skope/skope/xml/Intake" "stretch" "J" ≠ Jvm.RoadKit.slotOf Z "com/example/skope/skope/xml/Intake" "documentTypeDeclaration" "Z" := slot_ne (Or.inl (w_107 hw)) (Or.inl (w_96 hw)) (by decide) (t := .long) (t' := .boolean) (by decide) (by decide)
theorem sn_47 {a0 : Array Value} {Z : State} (hw : ∀ d ∈ tables_1, d.before a0 Z = true) : Jvm.RoadKit.slotOf Z "com/example/skope/skope/xml/Intake" "started" "Z" ≠ Jvm.RoadKit.slotOf Z "com/example/skope/skope/xml/Intake" "documentTypeDeclaration" "Z" := slot_ne (Or.inl (w_109 hw)) (Or.inl (w_96 hw)) (by decide) (t := .boolean) (t' := .boolean) (by decide) (by decide)
theorem d16_5 : decode prog_26_method_14_code 5 = .ok (.return_, 1) := by decide +kernel
def Q16 (Z : State) (a1 : Addr) (u_internalParameterEntity : Int32) (u_internalGeneralEntity : Int32) (u_attributeList : Int32) (u_documentTypeDeclaration : Int32) (u_declaringBytes : Int64) (u_bytes : Int64) (u_stretch : Int64) (u_started : Int32) (h0 : Heap) (n0 : Nat) (v : Option Value) (h : Heap) (L : List Loc) : Prop := v = none ∧ Fr n0 L ∧ Keep h0 h [a1] ∧ Fld Z h a1 "com/example/skope/skope/xml/Intake" "internalParameterEntity" "Z" (.int u_internalParameterEntity) ∧ Fld Z h a1 "com/example/skope/skope/xml/Intake" "internalGeneralEntity" "Z" (.int u_internalGeneralEntity) ∧ Fld Z h a1 "com/example/skope/skope/xml/Intake" "attributeList" "Z" (.int u_attributeList) ∧ Fld Z h a1 "com/example/skope/skope/xml/Intake" "documentTypeDeclaration" "Z" (.int (1 : Int32)) ∧ Fld Z h a1 "com/example/skope/skope/xml/Intake" "declaringBytes" "J" (.long u_declaringBytes) ∧ Fld Z h a1 "com/example/skope/skope/xml/Intake" "bytes" "J" (.long u_bytes) ∧ Fld Z h a1 "com/example/skope/skope/xml/Intake" "stretch" "J" (.long u_stretch) ∧ Fld Z h a1 "com/example/skope/skope/xml/Intake" "started" "Z" (.int u_started)
set_option maxRecDepth 65536 in
set_option maxHeartbeats 40000000 in
theorem rm16 (l : Launch) (Z : State) (a0 : Array Value) (hw : ∀ d ∈ tables_1, d.before a0 Z = true) (wsC : List Jvm.Cond) (a1 : Addr) (u_internalParameterEntity : Int32) (u_internalGeneralEntity : Int32) (u_attributeList : Int32) (u_documentTypeDeclaration : Int32) (u_declaringBytes : Int64) (u_bytes : Int64) (u_stretch : Int64) (u_started : Int32) (h0 : Heap) (n0 : Nat) (Z0 : n0 ≤ h0.size) (E_a1 : Exa Z h0 a1 "com/example/skope/skope/xml/Intake") (g_a1 : n0 ≤ a1) (F_a1_internalParameterEntity : Fld Z h0 a1 "com/example/skope/skope/xml/Intake" "internalParameterEntity" "Z" (.int u_internalParameterEntity)) (F_a1_internalGeneralEntity : Fld Z h0 a1 "com/example/skope/skope/xml/Intake" "internalGeneralEntity" "Z" (.int u_internalGeneralEntity)) (F_a1_attributeList : Fld Z h0 a1 "com/example/skope/skope/xml/Intake" "attributeList" "Z" (.int u_attributeList)) (F_a1_documentTypeDeclaration : Fld Z h0 a1 "com/example/skope/skope/xml/Intake" "documentTypeDeclaration" "Z" (.int u_documentTypeDeclaration)) (F_a1_declaringBytes : Fld Z h0 a1 "com/example/skope/skope/xml/Intake" "declaringBytes" "J" (.long u_declaringBytes)) (F_a1_bytes : Fld Z h0 a1 "com/example/skope/skope/xml/Intake" "bytes" "J" (.long u_bytes)) (F_a1_stretch : Fld Z h0 a1 "com/example/skope/skope/xml/Intake" "stretch" "J" (.long u_stretch)) (F_a1_started : Fld Z h0 a1 "com/example/skope/skope/xml/Intake" "started" "Z" (.int u_started)) :
    MetFree l (⟨"com/example/skope/skope/xml/Intake", "addDocumentTypeDeclaration", "()V"⟩ : MethodName) (head1 (Jvm.Cond.code (⟨"com/example/skope/skope/xml/Intake", "addDocumentTypeDeclaration", "()V"⟩ : MethodName) prog_26_method_14_code 1 none :: wsC) ({ frames := 0, cells := 0, slots := 0, locals := 0 } : Room)) (fun a U => a = #[(.ref a1)] ∧ Z.Warmed39 U.vm ∧ U.heap = h0) (fun _ _ _ _ _ => True) (fun _ U o U' => ∃ v L, o = .returned v ∧ Q16 Z a1 u_internalParameterEntity u_internalGeneralEntity u_attributeList u_documentTypeDeclaration u_declaringBytes u_bytes u_stretch u_started h0 n0 v U'.heap L ∧ FrameEnd U o U' L ({ frames := 0, cells := 0, slots := 0, locals := 0 } : Room).cells ({ frames := 0, cells := 0, slots := 0, locals := 0 } : Room).slots) := by
  refine MetFree.of_bodySF (plainFor_of_name pn_4) hisR ?_
  intro p e s m args below meth c s₁ Bd hml0 hP hK
  obtain ⟨rfl, hZ, hh⟩ := hP
  have hx := Bd.exec
  have hby := Bd.bytes
  have hml : c.maxLocals = 1 := hml0
  have hown : s.vm.findClass "com/example/skope/skope/xml/Intake" = some m.cls := findClass_of_methodNamed Bd.named
  have hnm := (name_of_methodNamed Bd.named Bd.method).1
  have X0 : Stand p l e ({ frames := 0, cells := 0, slots := 0, locals := 0 } : Room) s m #[(.ref a1)] below meth c s₁ [] 0 0 := Stand.of_body Bd
  skip
  have e0 : s₁.heap = h0 := by rw [← hh, Bd.state]; rfl
  have NF := Fr.nil n0
  have KP : Keep h0 h0 [a1] := Keep.refl h0 _
  refine WP.go ?_
  refine WP.cast (ef_16 m a1) ?_
  refine WP.name ?_
  intro G hG
  refine WP.st (T' := s₁) (f' := (mkF m 2 #[.val (.ref a1)] [(.int (1 : Int32)), (.ref a1)])) (fun t k => ?_) ?_
  · refine XS.aloadN X0.here hx rfl (hb hby d16_0) rfl rfl ?_
    show Steps p.tables e below (s₁.setTop (mkF m 1 #[.val (.ref a1)] [(.ref a1)])) t
    refine XS.iconst X0.here hx rfl (hb hby d16_1) ?_
    exact k
  obtain ⟨T150, h150, X150, e150, W150, st150⟩ := putFN X0 hx hZ hown (w_95 hw) Via.refl e0 F_a1_documentTypeDeclaration E_a1 (Or.inl (w_96 hw)) (w_38 hw) (ty := .boolean) (v := (.int (1 : Int32))) (v' := (.int (1 : Int32))) (by decide) rfl (by decide) (g := (mkF m 2 #[.val (.ref a1)] [(.int (1 : Int32)), (.ref a1)])) rfl rfl (hb hby d16_2)
  refine WP.st st150 ?_
  clear st150
  replace E_a1 := E_a1.wr W150
  replace F_a1_internalParameterEntity := F_a1_internalParameterEntity.other W150 (Or.inr (sn_41 hw))
  replace F_a1_internalGeneralEntity := F_a1_internalGeneralEntity.other W150 (Or.inr (sn_42 hw))
  replace F_a1_attributeList := F_a1_attributeList.other W150 (Or.inr (sn_43 hw))
  replace F_a1_documentTypeDeclaration := F_a1_documentTypeDeclaration.same W150
  replace F_a1_declaringBytes := F_a1_declaringBytes.other W150 (Or.inr (sn_44 hw))
  replace F_a1_bytes := F_a1_bytes.other W150 (Or.inr (sn_45 hw))
  replace F_a1_stretch := F_a1_stretch.other W150 (Or.inr (sn_46 hw))
  replace F_a1_started := F_a1_started.other W150 (Or.inr (sn_47 hw))
  replace Z0 := Nat.le_trans Z0 (Keep.of_wr W150).1
  replace KP := KP.wr W150 (Or.inl (List.mem_of_getElem? (i := 0) rfl))
  replace NF := Fr.snoc X150 NF g_a1
  clear W150
  have hXN : ∃ LL, Stand p l e ({ frames := 0, cells := 0, slots := 0, locals := 0 } : Room) s m #[(.ref a1)] below meth c T150 LL 0 0 ∧ Fr n0 LL := ⟨_, X150, NF⟩
  clear X150 NF
  obtain ⟨LL151, X150, NF⟩ := hXN
  show WP p.tables e below _ T150 (mkF m 5 #[.val (.ref a1)] [])
  subst hG
  obtain ⟨fs, hr, hrun, hended, hW, hsame⟩ := X150.leave (v := none) (fun _ => rfl)
  refine WP.fin ⟨_, _, ?_, hrun, hended, _, _, rfl, ?_, ⟨_, rfl⟩, hW, hsame.mono (by decide) (by decide)⟩
  · exact X150.returnOut hx Bd.returns (hb hby d16_5) hr
  · show Q16 Z a1 u_internalParameterEntity u_internalGeneralEntity u_attributeList u_documentTypeDeclaration u_declaringBytes u_bytes u_stretch u_started h0 n0 _ T150.heap _
    rw [e150]
    exact ⟨rfl, NF, KP, F_a1_internalParameterEntity, F_a1_internalGeneralEntity, F_a1_attributeList, F_a1_documentTypeDeclaration, F_a1_declaringBytes, F_a1_bytes, F_a1_stretch, F_a1_started⟩
theorem ef_17 (m : MethodId) (z0 : Addr) : entryFrame m #[(.ref z0)] 1 = mkF m 0 #[.val (.ref z0)] [] := by
  all_goals first | (simp [entryFrame, mkF, argsToLocals, Value.category]; done) | rfl
theorem d17_0 : decode prog_26_method_21_code 0 = .ok (.aload_n 0, 1) := by decide +kernel
theorem d17_1 : decode prog_26_method_21_code 1 = .ok (.getfield 79, 3) := by decide +kernel
theorem d17_4 : decode prog_26_method_21_code 4 = .ok (.ifCond .eq 16, 3) := by decide +kernel
theorem d17_20 : decode prog_26_method_21_code 20 = .ok (.aload_n 0, 1) := by decide +kernel
theorem d17_21 : decode prog_26_method_21_code 21 = .ok (.lconst 0, 1) := by decide +kernel
theorem w_104 {a0 : Array Value} {Z : State} (hw : ∀ d ∈ tables_1, d.before a0 Z = true) : (Jvm.Cond.fieldLink "com/example/skope/skope/xml/Intake" (91 : Nat) "com/example/skope/skope/xml/Intake" "bytes" "J").before a0 Z = true := hw _ (List.mem_of_getElem? (i := 104) rfl)
theorem d17_22 : decode prog_26_method_21_code 22 = .ok (.putfield 91, 3) := by decide +kernel
theorem sn_48 {a0 : Array Value} {Z : State} (hw : ∀ d ∈ tables_1, d.before a0 Z = true) : Jvm.RoadKit.slotOf Z "com/example/skope/skope/xml/Intake" "internalParameterEntity" "Z" ≠ Jvm.RoadKit.slotOf Z "com/example/skope/skope/xml/Intake" "bytes" "J" := slot_ne (Or.inl (w_55 hw)) (Or.inl (w_105 hw)) (by decide) (t := .boolean) (t' := .long) (by decide) (by decide)
theorem sn_49 {a0 : Array Value} {Z : State} (hw : ∀ d ∈ tables_1, d.before a0 Z = true) : Jvm.RoadKit.slotOf Z "com/example/skope/skope/xml/Intake" "internalGeneralEntity" "Z" ≠ Jvm.RoadKit.slotOf Z "com/example/skope/skope/xml/Intake" "bytes" "J" := slot_ne (Or.inl (w_57 hw)) (Or.inl (w_105 hw)) (by decide) (t := .boolean) (t' := .long) (by decide) (by decide)
theorem sn_50 {a0 : Array Value} {Z : State} (hw : ∀ d ∈ tables_1, d.before a0 Z = true) : Jvm.RoadKit.slotOf Z "com/example/skope/skope/xml/Intake" "attributeList" "Z" ≠ Jvm.RoadKit.slotOf Z "com/example/skope/skope/xml/Intake" "bytes" "J" := slot_ne (Or.inl (w_89 hw)) (Or.inl (w_105 hw)) (by decide) (t := .boolean) (t' := .long) (by decide) (by decide)
theorem sn_51 {a0 : Array Value} {Z : State} (hw : ∀ d ∈ tables_1, d.before a0 Z = true) : Jvm.RoadKit.slotOf Z "com/example/skope/skope/xml/Intake" "documentTypeDeclaration" "Z" ≠ Jvm.RoadKit.slotOf Z "com/example/skope/skope/xml/Intake" "bytes" "J" := slot_ne (Or.inl (w_96 hw)) (Or.inl (w_105 hw)) (by decide) (t := .boolean) (t' := .long) (by decide) (by decide)
theorem sn_52 {a0 : Array Value} {Z : State} (hw : ∀ d ∈ tables_1, d.before a0 Z = true) : Jvm.RoadKit.slotOf Z "com/example/skope/skope/xml/Intake" "declaringBytes" "J" ≠ Jvm.RoadKit.slotOf Z "com/example/skope/skope/xml/Intake" "bytes" "J" := slot_ne (Or.inl (w_103 hw)) (Or.inl (w_105 hw)) (by decide) (t := .long) (t' := .long) (by decide) (by decide)
theorem sn_53 {a0 : Array Value} {Z : State} (hw : ∀ d ∈ tables_1, d.before a0 Z = true) : Jvm.RoadKit.slotOf Z "com/example/skope/skope/xml/Intake" "stretch" "J" ≠ Jvm.RoadKit.slotOf Z "com/example/skope/skope/xml/Intake" "bytes" "J" := slot_ne (Or.inl (w_107 hw)) (Or.inl (w_105 hw)) (by decide) (t := .long) (t' := .long) (by decide) (by decide)
theorem sn_54 {a0 : Array Value} {Z : State} (hw : ∀ d ∈ tables_1, d.before a0 Z = true) : Jvm.RoadKit.slotOf Z "com/example/skope/skope/xml/Intake" "started" "Z" ≠ Jvm.RoadKit.slotOf Z "com/example/skope/skope/xml/Intake" "bytes" "J" := slot_ne (Or.inl (w_109 hw)) (Or.inl (w_105 hw)) (by decide) (t := .boolean) (t' := .long) (by decide) (by decide)
theorem d17_25 : decode prog_26_method_21_code 25 = .ok (.aload_n 0, 1) := by decide +kernel
theorem d17_26 : decode prog_26_method_21_code 26 = .ok (.lconst 0, 1) := by decide +kernel
theorem w_106 {a0 : Array Value} {Z : State} (hw : ∀ d ∈ tables_1, d.before a0 Z = true) : (Jvm.Cond.fieldLink "com/example/skope/skope/xml/Intake" (94 : Nat) "com/example/skope/skope/xml/Intake" "stretch" "J").before a0 Z = true := hw _ (List.mem_of_getElem? (i := 106) rfl)
theorem d17_27 : decode prog_26_method_21_code 27 = .ok (.putfield 94, 3) := by decide +kernel
theorem sn_55 {a0 : Array Value} {Z : State} (hw : ∀ d ∈ tables_1, d.before a0 Z = true) : Jvm.RoadKit.slotOf Z "com/example/skope/skope/xml/Intake" "internalParameterEntity" "Z" ≠ Jvm.RoadKit.slotOf Z "com/example/skope/skope/xml/Intake" "stretch" "J" := slot_ne (Or.inl (w_55 hw)) (Or.inl (w_107 hw)) (by decide) (t := .boolean) (t' := .long) (by decide) (by decide)
theorem sn_56 {a0 : Array Value} {Z : State} (hw : ∀ d ∈ tables_1, d.before a0 Z = true) : Jvm.RoadKit.slotOf Z "com/example/skope/skope/xml/Intake" "internalGeneralEntity" "Z" ≠ Jvm.RoadKit.slotOf Z "com/example/skope/skope/xml/Intake" "stretch" "J" := slot_ne (Or.inl (w_57 hw)) (Or.inl (w_107 hw)) (by decide) (t := .boolean) (t' := .long) (by decide) (by decide)
theorem sn_57 {a0 : Array Value} {Z : State} (hw : ∀ d ∈ tables_1, d.before a0 Z = true) : Jvm.RoadKit.slotOf Z "com/example/skope/skope/xml/Intake" "attributeList" "Z" ≠ Jvm.RoadKit.slotOf Z "com/example/skope/skope/xml/Intake" "stretch" "J" := slot_ne (Or.inl (w_89 hw)) (Or.inl (w_107 hw)) (by decide) (t := .boolean) (t' := .long) (by decide) (by decide)
theorem sn_58 {a0 : Array Value} {Z : State} (hw : ∀ d ∈ tables_1, d.before a0 Z = true) : Jvm.RoadKit.slotOf Z "com/example/skope/skope/xml/Intake" "documentTypeDeclaration" "Z" ≠ Jvm.RoadKit.slotOf Z "com/example/skope/skope/xml/Intake" "stretch" "J" := slot_ne (Or.inl (w_96 hw)) (Or.inl (w_107 hw)) (by decide) (t := .boolean) (t' := .long) (by decide) (by decide)
theorem sn_59 {a0 : Array Value} {Z : State} (hw : ∀ d ∈ tables_1, d.before a0 Z = true) : Jvm.RoadKit.slotOf Z "com/example/skope/skope/xml/Intake" "declaringBytes" "J" ≠ Jvm.RoadKit.slotOf Z "com/example/skope/skope/xml/Intake" "stretch" "J" := slot_ne (Or.inl (w_103 hw)) (Or.inl (w_107 hw)) (by decide) (t := .long) (t' := .long) (by decide) (by decide)
theorem sn_60 {a0 : Array Value} {Z : State} (hw : ∀ d ∈ tables_1, d.before a0 Z = true) : Jvm.RoadKit.slotOf Z "com/example/skope/skope/xml/Intake" "bytes" "J" ≠ Jvm.RoadKit.slotOf Z "com/example/skope/skope/xml/Intake" "stretch" "J" := slot_ne (Or.inl (w_105 hw)) (Or.inl (w_107 hw)) (by decide) (t := .long) (t' := .long) (by decide) (by decide)
theorem sn_61 {a0 : Array Value} {Z : State} (hw : ∀ d ∈ tables_1, d.before a0 Z = true) : Jvm.RoadKit.slotOf Z "com/example/skope/skope/xml/Intake" "started" "Z" ≠ Jvm.RoadKit.slotOf Z "com/example/skope/skope/xml/Intake" "stretch" "J" := slot_ne (Or.inl (w_109 hw)) (Or.inl (w_107 hw)) (by decide) (t := .boolean) (t' := .long) (by decide) (by decide)
theorem d17_30 : decode prog_26_method_21_code 30 = .ok (.aload_n 0, 1) := by decide +kernel
theorem d17_31 : decode prog_26_method_21_code 31 = .ok (.iconst 0, 1) := by decide +kernel
theorem w_108 {a0 : Array Value} {Z : State} (hw : ∀ d ∈ tables_1, d.before a0 Z = true) : (Jvm.Cond.fieldLink "com/example/skope/skope/xml/Intake" (22 : Nat) "com/example/skope/skope/xml/Intake" "started" "Z").before a0 Z = true := hw _ (List.mem_of_getElem? (i := 108) rfl)
theorem d17_32 : decode prog_26_method_21_code 32 = .ok (.putfield 22, 3) := by decide +kernel
theorem sn_62 {a0 : Array Value} {Z : State} (hw : ∀ d ∈ tables_1, d.before a0 Z = true) : Jvm.RoadKit.slotOf Z "com/example/skope/skope/xml/Intake" "internalParameterEntity" "Z" ≠ Jvm.RoadKit.slotOf Z "com/example/skope/skope/xml/Intake" "started" "Z" := slot_ne (Or.inl (w_55 hw)) (Or.inl (w_109 hw)) (by decide) (t := .boolean) (t' := .boolean) (by decide) (by decide)
theorem sn_63 {a0 : Array Value} {Z : State} (hw : ∀ d ∈ tables_1, d.before a0 Z = true) : Jvm.RoadKit.slotOf Z "com/example/skope/skope/xml/Intake" "internalGeneralEntity" "Z" ≠ Jvm.RoadKit.slotOf Z "com/example/skope/skope/xml/Intake" "started" "Z" := slot_ne (Or.inl (w_57 hw)) (Or.inl (w_109 hw)) (by decide) (t := .boolean) (t' := .boolean) (by decide) (by decide)
theorem sn_64 {a0 : Array Value} {Z : State} (hw : ∀ d ∈ tables_1, d.before a0 Z = true) : Jvm.RoadKit.slotOf Z "com/example/skope/skope/xml/Intake" "attributeList" "Z" ≠ Jvm.RoadKit.slotOf Z "com/example/skope/skope/xml/Intake" "started" "Z" := slot_ne (Or.inl (w_89 hw)) (Or.inl (w_109 hw)) (by decide) (t := .boolean) (t' := .boolean) (by decide) (by decide)
theorem sn_65 {a0 : Array Value} {Z : State} (hw : ∀ d ∈ tables_1, d.before a0 Z = true) : Jvm.RoadKit.slotOf Z "com/example/skope/skope/xml/Intake" "documentTypeDeclaration" "Z" ≠ Jvm.RoadKit.slotOf Z "com/example/skope/skope/xml/Intake" "started" "Z" := slot_ne (Or.inl (w_96 hw)) (Or.inl (w_109 hw)) (by decide) (t := .boolean) (t' := .boolean) (by decide) (by decide)
theorem sn_66 {a0 : Array Value} {Z : State} (hw : ∀ d ∈ tables_1, d.before a0 Z = true) : Jvm.RoadKit.slotOf Z "com/example/skope/skope/xml/Intake" "declaringBytes" "J" ≠ Jvm.RoadKit.slotOf Z "com/example/skope/skope/xml/Intake" "started" "Z" := slot_ne (Or.inl (w_103 hw)) (Or.inl (w_109 hw)) (by decide) (t := .long) (t' := .boolean) (by decide) (by decide)
theorem sn_67 {a0 : Array Value} {Z : State} (hw : ∀ d ∈ tables_1, d.before a0 Z = true) : Jvm.RoadKit.slotOf Z "com/example/skope/skope/xml/Intake" "bytes" "J" ≠ Jvm.RoadKit.slotOf Z "com/example/skope/skope/xml/Intake" "started" "Z" := slot_ne (Or.inl (w_105 hw)) (Or.inl (w_109 hw)) (by decide) (t := .long) (t' := .boolean) (by decide) (by decide)
theorem sn_68 {a0 : Array Value} {Z : State} (hw : ∀ d ∈ tables_1, d.before a0 Z = true) : Jvm.RoadKit.slotOf Z "com/example/skope/skope/xml/Intake" "stretch" "J" ≠ Jvm.RoadKit.slotOf Z "com/example/skope/skope/xml/Intake" "started" "Z" := slot_ne (Or.inl (w_107 hw)) (Or.inl (w_109 hw)) (by decide) (t := .long) (t' := .boolean) (by decide) (by decide)
theorem d17_35 : decode prog_26_method_21_code 35 = .ok (.aload_n 0, 1) := by decide +kernel
theorem d17_36 : decode prog_26_method_21_code 36 = .ok (.iconst 0, 1) := by decide +kernel
theorem d17_37 : decode prog_26_method_21_code 37 = .ok (.putfield 73, 3) := by decide +kernel
theorem d17_40 : decode prog_26_method_21_code 40 = .ok (.aload_n 0, 1) := by decide +kernel
theorem d17_41 : decode prog_26_method_21_code 41 = .ok (.iconst 0, 1) := by decide +kernel
theorem d17_42 : decode prog_26_method_21_code 42 = .ok (.putfield 70, 3) := by decide +kernel
theorem d17_45 : decode prog_26_method_21_code 45 = .ok (.aload_n 0, 1) := by decide +kernel
theorem d17_46 : decode prog_26_method_21_code 46 = .ok (.iconst 0, 1) := by decide +kernel
theorem d17_47 : decode prog_26_method_21_code 47 = .ok (.putfield 76, 3) := by decide +kernel
theorem d17_50 : decode prog_26_method_21_code 50 = .ok (.aload_n 0, 1) := by decide +kernel
theorem d17_51 : decode prog_26_method_21_code 51 = .ok (.iconst 0, 1) := by decide +kernel
theorem d17_52 : decode prog_26_method_21_code 52 = .ok (.putfield 79, 3) := by decide +kernel
theorem d17_55 : decode prog_26_method_21_code 55 = .ok (.return_, 1) := by decide +kernel
theorem d17_7 : decode prog_26_method_21_code 7 = .ok (.aload_n 0, 1) := by decide +kernel
theorem d17_8 : decode prog_26_method_21_code 8 = .ok (.dup, 1) := by decide +kernel
theorem w_102 {a0 : Array Value} {Z : State} (hw : ∀ d ∈ tables_1, d.before a0 Z = true) : (Jvm.Cond.fieldLink "com/example/skope/skope/xml/Intake" (82 : Nat) "com/example/skope/skope/xml/Intake" "declaringBytes" "J").before a0 Z = true := hw _ (List.mem_of_getElem? (i := 102) rfl)
theorem d17_9 : decode prog_26_method_21_code 9 = .ok (.getfield 82, 3) := by decide +kernel
theorem d17_12 : decode prog_26_method_21_code 12 = .ok (.aload_n 0, 1) := by decide +kernel
theorem d17_13 : decode prog_26_method_21_code 13 = .ok (.getfield 91, 3) := by decide +kernel
theorem d17_16 : decode prog_26_method_21_code 16 = .ok (.ladd, 1) := by decide +kernel
theorem d17_17 : decode prog_26_method_21_code 17 = .ok (.putfield 82, 3) := by decide +kernel
theorem sn_69 {a0 : Array Value} {Z : State} (hw : ∀ d ∈ tables_1, d.before a0 Z = true) : Jvm.RoadKit.slotOf Z "com/example/skope/skope/xml/Intake" "internalParameterEntity" "Z" ≠ Jvm.RoadKit.slotOf Z "com/example/skope/skope/xml/Intake" "declaringBytes" "J" := slot_ne (Or.inl (w_55 hw)) (Or.inl (w_103 hw)) (by decide) (t := .boolean) (t' := .long) (by decide) (by decide)
theorem sn_70 {a0 : Array Value} {Z : State} (hw : ∀ d ∈ tables_1, d.before a0 Z = true) : Jvm.RoadKit.slotOf Z "com/example/skope/skope/xml/Intake" "internalGeneralEntity" "Z" ≠ Jvm.RoadKit.slotOf Z "com/example/skope/skope/xml/Intake" "declaringBytes" "J" := slot_ne (Or.inl (w_57 hw)) (Or.inl (w_103 hw)) (by decide) (t := .boolean) (t' := .long) (by decide) (by decide)
theorem sn_71 {a0 : Array Value} {Z : State} (hw : ∀ d ∈ tables_1, d.before a0 Z = true) : Jvm.RoadKit.slotOf Z "com/example/skope/skope/xml/Intake" "attributeList" "Z" ≠ Jvm.RoadKit.slotOf Z "com/example/skope/skope/xml/Intake" "declaringBytes" "J" := slot_ne (Or.inl (w_89 hw)) (Or.inl (w_103 hw)) (by decide) (t := .boolean) (t' := .long) (by decide) (by decide)
theorem sn_72 {a0 : Array Value} {Z : State} (hw : ∀ d ∈ tables_1, d.before a0 Z = true) : Jvm.RoadKit.slotOf Z "com/example/skope/skope/xml/Intake" "documentTypeDeclaration" "Z" ≠ Jvm.RoadKit.slotOf Z "com/example/skope/skope/xml/Intake" "declaringBytes" "J" := slot_ne (Or.inl (w_96 hw)) (Or.inl (w_103 hw)) (by decide) (t := .boolean) (t' := .long) (by decide) (by decide)
theorem sn_73 {a0 : Array Value} {Z : State} (hw : ∀ d ∈ tables_1, d.before a0 Z = true) : Jvm.RoadKit.slotOf Z "com/example/skope/skope/xml/Intake" "bytes" "J" ≠ Jvm.RoadKit.slotOf Z "com/example/skope/skope/xml/Intake" "declaringBytes" "J" := slot_ne (Or.inl (w_105 hw)) (Or.inl (w_103 hw)) (by decide) (t := .long) (t' := .long) (by decide) (by decide)
theorem sn_74 {a0 : Array Value} {Z : State} (hw : ∀ d ∈ tables_1, d.before a0 Z = true) : Jvm.RoadKit.slotOf Z "com/example/skope/skope/xml/Intake" "stretch" "J" ≠ Jvm.RoadKit.slotOf Z "com/example/skope/skope/xml/Intake" "declaringBytes" "J" := slot_ne (Or.inl (w_107 hw)) (Or.inl (w_103 hw)) (by decide) (t := .long) (t' := .long) (by decide) (by decide)
theorem sn_75 {a0 : Array Value} {Z : State} (hw : ∀ d ∈ tables_1, d.before a0 Z = true) : Jvm.RoadKit.slotOf Z "com/example/skope/skope/xml/Intake" "started" "Z" ≠ Jvm.RoadKit.slotOf Z "com/example/skope/skope/xml/Intake" "declaringBytes" "J" := slot_ne (Or.inl (w_109 hw)) (Or.inl (w_103 hw)) (by decide) (t := .boolean) (t' := .long) (by decide) (by decide)
def Q17 (Z : State) (a1 : Addr) (u_internalParameterEntity : Int32) (u_internalGeneralEntity : Int32) (u_attributeList : Int32) (u_documentTypeDeclaration : Int32) (u_declaringBytes : Int64) (u_bytes : Int64) (u_stretch : Int64) (u_started : Int32) (h0 : Heap) (n0 : Nat) (v : Option Value) (h : Heap) (L : List Loc) : Prop := v = none ∧ Fr n0 L ∧ Keep h0 h [a1] ∧ Fld Z h a1 "com/example/skope/skope/xml/Intake" "internalParameterEntity" "Z" (.int (0 : Int32)) ∧ Fld Z h a1 "com/example/skope/skope/xml/Intake" "internalGeneralEntity" "Z" (.int (0 : Int32)) ∧ Fld Z h a1 "com/example/skope/skope/xml/Intake" "attributeList" "Z" (.int (0 : Int32)) ∧ Fld Z h a1 "com/example/skope/skope/xml/Intake" "documentTypeDeclaration" "Z" (.int (0 : Int32)) ∧ Fld Z h a1 "com/example/skope/skope/xml/Intake" "declaringBytes" "J" (.long (if u_documentTypeDeclaration = (0 : Int32) then u_declaringBytes else (u_declaringBytes + u_bytes))) ∧ Fld Z h a1 "com/example/skope/skope/xml/Intake" "bytes" "J" (.long (0 : Int64)) ∧ Fld Z h a1 "com/example/skope/skope/xml/Intake" "stretch" "J" (.long (0 : Int64)) ∧ Fld Z h a1 "com/example/skope/skope/xml/Intake" "started" "Z" (.int (0 : Int32))
set_option maxRecDepth 65536 in
set_option maxHeartbeats 40000000 in
theorem rm17 (l : Launch) (Z : State) (a0 : Array Value) (hw : ∀ d ∈ tables_1, d.before a0 Z = true) (wsC : List Jvm.Cond) (a1 : Addr) (u_internalParameterEntity : Int32) (u_internalGeneralEntity : Int32) (u_attributeList : Int32) (u_documentTypeDeclaration : Int32) (u_declaringBytes : Int64) (u_bytes : Int64) (u_stretch : Int64) (u_started : Int32) (h0 : Heap) (n0 : Nat) (Z0 : n0 ≤ h0.size) (E_a1 : Exa Z h0 a1 "com/example/skope/skope/xml/Intake") (g_a1 : n0 ≤ a1) (F_a1_internalParameterEntity : Fld Z h0 a1 "com/example/skope/skope/xml/Intake" "internalParameterEntity" "Z" (.int u_internalParameterEntity)) (F_a1_internalGeneralEntity : Fld Z h0 a1 "com/example/skope/skope/xml/Intake" "internalGeneralEntity" "Z" (.int u_internalGeneralEntity)) (F_a1_attributeList : Fld Z h0 a1 "com/example/skope/skope/xml/Intake" "attributeList" "Z" (.int u_attributeList)) (F_a1_documentTypeDeclaration : Fld Z h0 a1 "com/example/skope/skope/xml/Intake" "documentTypeDeclaration" "Z" (.int u_documentTypeDeclaration)) (F_a1_declaringBytes : Fld Z h0 a1 "com/example/skope/skope/xml/Intake" "declaringBytes" "J" (.long u_declaringBytes)) (F_a1_bytes : Fld Z h0 a1 "com/example/skope/skope/xml/Intake" "bytes" "J" (.long u_bytes)) (F_a1_stretch : Fld Z h0 a1 "com/example/skope/skope/xml/Intake" "stretch" "J" (.long u_stretch)) (F_a1_started : Fld Z h0 a1 "com/example/skope/skope/xml/Intake" "started" "Z" (.int u_started)) :
    MetFree l (⟨"com/example/skope/skope/xml/Intake", "clear", "()V"⟩ : MethodName) (head1 (Jvm.Cond.code (⟨"com/example/skope/skope/xml/Intake", "clear", "()V"⟩ : MethodName) prog_26_method_21_code 1 none :: wsC) ({ frames := 0, cells := 0, slots := 0, locals := 0 } : Room)) (fun a U => a = #[(.ref a1)] ∧ Z.Warmed39 U.vm ∧ U.heap = h0) (fun _ _ _ _ _ => True) (fun _ U o U' => ∃ v L, o = .returned v ∧ Q17 Z a1 u_internalParameterEntity u_internalGeneralEntity u_attributeList u_documentTypeDeclaration u_declaringBytes u_bytes u_stretch u_started h0 n0 v U'.heap L ∧ FrameEnd U o U' L ({ frames := 0, cells := 0, slots := 0, locals := 0 } : Room).cells ({ frames := 0, cells := 0, slots := 0, locals := 0 } : Room).slots) := by
  refine MetFree.of_bodySF (plainFor_of_name pn_4) hisR ?_
  intro p e s m args below meth c s₁ Bd hml0 hP hK
  obtain ⟨rfl, hZ, hh⟩ := hP
  have hx := Bd.exec
  have hby := Bd.bytes
  have hml : c.maxLocals = 1 := hml0
  have hown : s.vm.findClass "com/example/skope/skope/xml/Intake" = some m.cls := findClass_of_methodNamed Bd.named
  have hnm := (name_of_methodNamed Bd.named Bd.method).1
  have X0 : Stand p l e ({ frames := 0, cells := 0, slots := 0, locals := 0 } : Room) s m #[(.ref a1)] below meth c s₁ [] 0 0 := Stand.of_body Bd
  skip
  have e0 : s₁.heap = h0 := by rw [← hh, Bd.state]; rfl
  have NF := Fr.nil n0
  have KP : Keep h0 h0 [a1] := Keep.refl h0 _
  refine WP.go ?_
  refine WP.cast (ef_17 m a1) ?_
  refine WP.name ?_
  intro G hG
  refine WP.st (T' := s₁) (f' := (mkF m 1 #[.val (.ref a1)] [(.ref a1)])) (fun t k => ?_) ?_
  · refine XS.aloadN X0.here hx rfl (hb hby d17_0) rfl rfl ?_
    exact k
  obtain ⟨T152, X152, e152, st152⟩ := getF X0 hx hZ hown (host := "") (Or.inl (w_95 hw)) Via.refl e0 F_a1_documentTypeDeclaration (g := (mkF m 1 #[.val (.ref a1)] [(.ref a1)])) rfl rfl (hb hby d17_1)
  refine WP.st st152 ?_
  clear st152
  show WP p.tables e below _ T152 (mkF m 4 #[.val (.ref a1)] [(.int u_documentTypeDeclaration)])
  by_cases hc153 : u_documentTypeDeclaration = (0 : Int32)
  · skip
    refine WP.st (T' := T152) (f' := (mkF m 22 #[.val (.ref a1)] [(.long (0 : Int64)), (.ref a1)])) (fun t k => ?_) ?_
    · refine XS.ifYes X152.here hx rfl (pc0 := 4) (pc' := 20) rfl (hb hby d17_4) rfl ((if0 _ _).trans (teq hc153).1) (by decide) (by decide) ?_
      show Steps p.tables e below (T152.setTop (mkF m 20 #[.val (.ref a1)] [])) t
      refine XS.aloadN X152.here hx rfl (hb hby d17_20) rfl rfl ?_
      show Steps p.tables e below (T152.setTop (mkF m 21 #[.val (.ref a1)] [(.ref a1)])) t
      refine XS.lconst X152.here hx rfl (hb hby d17_21) ?_
      exact k
    obtain ⟨T154, h154, X154, e154, W154, st154⟩ := putF X152 hx hZ hown (host := "") (Or.inl (w_104 hw)) Via.refl e152 F_a1_bytes E_a1 (Or.inl (w_105 hw)) (w_38 hw) (ty := .long) (by decide) rfl rfl (g := (mkF m 22 #[.val (.ref a1)] [(.long (0 : Int64)), (.ref a1)])) rfl rfl (hb hby d17_22)
    refine WP.st st154 ?_
    clear st154
    replace E_a1 := E_a1.wr W154
    replace F_a1_internalParameterEntity := F_a1_internalParameterEntity.other W154 (Or.inr (sn_48 hw))
    replace F_a1_internalGeneralEntity := F_a1_internalGeneralEntity.other W154 (Or.inr (sn_49 hw))
    replace F_a1_attributeList := F_a1_attributeList.other W154 (Or.inr (sn_50 hw))
    replace F_a1_documentTypeDeclaration := F_a1_documentTypeDeclaration.other W154 (Or.inr (sn_51 hw))
    replace F_a1_declaringBytes := F_a1_declaringBytes.other W154 (Or.inr (sn_52 hw))
    replace F_a1_bytes := F_a1_bytes.same W154
    replace F_a1_stretch := F_a1_stretch.other W154 (Or.inr (sn_53 hw))
    replace F_a1_started := F_a1_started.other W154 (Or.inr (sn_54 hw))
    replace Z0 := Nat.le_trans Z0 (Keep.of_wr W154).1
    replace KP := KP.wr W154 (Or.inl (List.mem_of_getElem? (i := 0) rfl))
    replace NF := Fr.snoc X154 NF g_a1
    clear W154
    have hXN : ∃ LL, Stand p l e ({ frames := 0, cells := 0, slots := 0, locals := 0 } : Room) s m #[(.ref a1)] below meth c T154 LL 0 0 ∧ Fr n0 LL := ⟨_, X154, NF⟩
    clear X154 NF
    obtain ⟨LL155, X154, NF⟩ := hXN
    show WP p.tables e below _ T154 (mkF m 25 #[.val (.ref a1)] [])
    refine WP.st (T' := T154) (f' := (mkF m 27 #[.val (.ref a1)] [(.long (0 : Int64)), (.ref a1)])) (fun t k => ?_) ?_
    · refine XS.aloadN X154.here hx rfl (hb hby d17_25) rfl rfl ?_
      show Steps p.tables e below (T154.setTop (mkF m 26 #[.val (.ref a1)] [(.ref a1)])) t
      refine XS.lconst X154.here hx rfl (hb hby d17_26) ?_
      exact k
    obtain ⟨T156, h156, X156, e156, W156, st156⟩ := putF X154 hx hZ hown (host := "") (Or.inl (w_106 hw)) Via.refl e154 F_a1_stretch E_a1 (Or.inl (w_107 hw)) (w_38 hw) (ty := .long) (by decide) rfl rfl (g := (mkF m 27 #[.val (.ref a1)] [(.long (0 : Int64)), (.ref a1)])) rfl rfl (hb hby d17_27)
    refine WP.st st156 ?_
    clear st156
    replace E_a1 := E_a1.wr W156
    replace F_a1_internalParameterEntity := F_a1_internalParameterEntity.other W156 (Or.inr (sn_55 hw))
    replace F_a1_internalGeneralEntity := F_a1_internalGeneralEntity.other W156 (Or.inr (sn_56 hw))
    replace F_a1_attributeList := F_a1_attributeList.other W156 (Or.inr (sn_57 hw))
    replace F_a1_documentTypeDeclaration := F_a1_documentTypeDeclaration.other W156 (Or.inr (sn_58 hw))
    replace F_a1_declaringBytes := F_a1_declaringBytes.other W156 (Or.inr (sn_59 hw))
    replace F_a1_bytes := F_a1_bytes.other W156 (Or.inr (sn_60 hw))
    replace F_a1_stretch := F_a1_stretch.same W156
    replace F_a1_started := F_a1_started.other W156 (Or.inr (sn_61 hw))
    replace Z0 := Nat.le_trans Z0 (Keep.of_wr W156).1
    replace KP := KP.wr W156 (Or.inl (List.mem_of_getElem? (i := 0) rfl))
    replace NF := Fr.snoc X156 NF g_a1
    clear W156
    have hXN : ∃ LL, Stand p l e ({ frames := 0, cells := 0, slots := 0, locals := 0 } : Room) s m #[(.ref a1)] below meth c T156 LL 0 0 ∧ Fr n0 LL := ⟨_, X156, NF⟩
    clear X156 NF
    obtain ⟨LL157, X156, NF⟩ := hXN
    show WP p.tables e below _ T156 (mkF m 30 #[.val (.ref a1)] [])
    refine WP.st (T' := T156) (f' := (mkF m 32 #[.val (.ref a1)] [(.int (0 : Int32)), (.ref a1)])) (fun t k => ?_) ?_
    · refine XS.aloadN X156.here hx rfl (hb hby d17_30) rfl rfl ?_
      show Steps p.tables e below (T156.setTop (mkF m 31 #[.val (.ref a1)] [(.ref a1)])) t
      refine XS.iconst X156.here hx rfl (hb hby d17_31) ?_
      exact k
    obtain ⟨T158, h158, X158, e158, W158, st158⟩ := putFN X156 hx hZ hown (w_108 hw) Via.refl e156 F_a1_started E_a1 (Or.inl (w_109 hw)) (w_38 hw) (ty := .boolean) (v := (.int (0 : Int32))) (v' := (.int (0 : Int32))) (by decide) rfl (by decide) (g := (mkF m 32 #[.val (.ref a1)] [(.int (0 : Int32)), (.ref a1)])) rfl rfl (hb hby d17_32)
    refine WP.st st158 ?_
    clear st158
    replace E_a1 := E_a1.wr W158
    replace F_a1_internalParameterEntity := F_a1_internalParameterEntity.other W158 (Or.inr (sn_62 hw))
    replace F_a1_internalGeneralEntity := F_a1_internalGeneralEntity.other W158 (Or.inr (sn_63 hw))
    replace F_a1_attributeList := F_a1_attributeList.other W158 (Or.inr (sn_64 hw))
    replace F_a1_documentTypeDeclaration := F_a1_documentTypeDeclaration.other W158 (Or.inr (sn_65 hw))
    replace F_a1_declaringBytes := F_a1_declaringBytes.other W158 (Or.inr (sn_66 hw))
    replace F_a1_bytes := F_a1_bytes.other W158 (Or.inr (sn_67 hw))
    replace F_a1_stretch := F_a1_stretch.other W158 (Or.inr (sn_68 hw))
    replace F_a1_started := F_a1_started.same W158
    replace Z0 := Nat.le_trans Z0 (Keep.of_wr W158).1
    replace KP := KP.wr W158 (Or.inl (List.mem_of_getElem? (i := 0) rfl))
    replace NF := Fr.snoc X158 NF g_a1
    clear W158
    have hXN : ∃ LL, Stand p l e ({ frames := 0, cells := 0, slots := 0, locals := 0 } : Room) s m #[(.ref a1)] below meth c T158 LL 0 0 ∧ Fr n0 LL := ⟨_, X158, NF⟩
    clear X158 NF
    obtain ⟨LL159, X158, NF⟩ := hXN
    show WP p.tables e below _ T158 (mkF m 35 #[.val (.ref a1)] [])
    refine WP.st (T' := T158) (f' := (mkF m 37 #[.val (.ref a1)] [(.int (0 : Int32)), (.ref a1)])) (fun t k => ?_) ?_
    · refine XS.aloadN X158.here hx rfl (hb hby d17_35) rfl rfl ?_
      show Steps p.tables e below (T158.setTop (mkF m 36 #[.val (.ref a1)] [(.ref a1)])) t
      refine XS.iconst X158.here hx rfl (hb hby d17_36) ?_
      exact k
    obtain ⟨T160, h160, X160, e160, W160, st160⟩ := putFN X158 hx hZ hown (w_56 hw) Via.refl e158 F_a1_internalGeneralEntity E_a1 (Or.inl (w_57 hw)) (w_38 hw) (ty := .boolean) (v := (.int (0 : Int32))) (v' := (.int (0 : Int32))) (by decide) rfl (by decide) (g := (mkF m 37 #[.val (.ref a1)] [(.int (0 : Int32)), (.ref a1)])) rfl rfl (hb hby d17_37)
    refine WP.st st160 ?_
    clear st160
    replace E_a1 := E_a1.wr W160
    replace F_a1_internalParameterEntity := F_a1_internalParameterEntity.other W160 (Or.inr (sn_27 hw))
    replace F_a1_internalGeneralEntity := F_a1_internalGeneralEntity.same W160
    replace F_a1_attributeList := F_a1_attributeList.other W160 (Or.inr (sn_28 hw))
    replace F_a1_documentTypeDeclaration := F_a1_documentTypeDeclaration.other W160 (Or.inr (sn_29 hw))
    replace F_a1_declaringBytes := F_a1_declaringBytes.other W160 (Or.inr (sn_30 hw))
    replace F_a1_bytes := F_a1_bytes.other W160 (Or.inr (sn_31 hw))
    replace F_a1_stretch := F_a1_stretch.other W160 (Or.inr (sn_32 hw))
    replace F_a1_started := F_a1_started.other W160 (Or.inr (sn_33 hw))
    replace Z0 := Nat.le_trans Z0 (Keep.of_wr W160).1
    replace KP := KP.wr W160 (Or.inl (List.mem_of_getElem? (i := 0) rfl))
    replace NF := Fr.snoc X160 NF g_a1
    clear W160
    have hXN : ∃ LL, Stand p l e ({ frames := 0, cells := 0, slots := 0, locals := 0 } : Room) s m #[(.ref a1)] below meth c T160 LL 0 0 ∧ Fr n0 LL := ⟨_, X160, NF⟩
    clear X160 NF
    obtain ⟨LL161, X160, NF⟩ := hXN
    show WP p.tables e below _ T160 (mkF m 40 #[.val (.ref a1)] [])
    refine WP.st (T' := T160) (f' := (mkF m 42 #[.val (.ref a1)] [(.int (0 : Int32)), (.ref a1)])) (fun t k => ?_) ?_
    · refine XS.aloadN X160.here hx rfl (hb hby d17_40) rfl rfl ?_
      show Steps p.tables e below (T160.setTop (mkF m 41 #[.val (.ref a1)] [(.ref a1)])) t
      refine XS.iconst X160.here hx rfl (hb hby d17_41) ?_
      exact k
    obtain ⟨T162, h162, X162, e162, W162, st162⟩ := putFN X160 hx hZ hown (w_54 hw) Via.refl e160 F_a1_internalParameterEntity E_a1 (Or.inl (w_55 hw)) (w_38 hw) (ty := .boolean) (v := (.int (0 : Int32))) (v' := (.int (0 : Int32))) (by decide) rfl (by decide) (g := (mkF m 42 #[.val (.ref a1)] [(.int (0 : Int32)), (.ref a1)])) rfl rfl (hb hby d17_42)
    refine WP.st st162 ?_
    clear st162
    replace E_a1 := E_a1.wr W162
    replace F_a1_internalParameterEntity := F_a1_internalParameterEntity.same W162
    replace F_a1_internalGeneralEntity := F_a1_internalGeneralEntity.other W162 (Or.inr (sn_20 hw))
    replace F_a1_attributeList := F_a1_attributeList.other W162 (Or.inr (sn_21 hw))
    replace F_a1_documentTypeDeclaration := F_a1_documentTypeDeclaration.other W162 (Or.inr (sn_22 hw))
    replace F_a1_declaringBytes := F_a1_declaringBytes.other W162 (Or.inr (sn_23 hw))
    replace F_a1_bytes := F_a1_bytes.other W162 (Or.inr (sn_24 hw))
    replace F_a1_stretch := F_a1_stretch.other W162 (Or.inr (sn_25 hw))
    replace F_a1_started := F_a1_started.other W162 (Or.inr (sn_26 hw))
    replace Z0 := Nat.le_trans Z0 (Keep.of_wr W162).1
    replace KP := KP.wr W162 (Or.inl (List.mem_of_getElem? (i := 0) rfl))
    replace NF := Fr.snoc X162 NF g_a1
    clear W162
    have hXN : ∃ LL, Stand p l e ({ frames := 0, cells := 0, slots := 0, locals := 0 } : Room) s m #[(.ref a1)] below meth c T162 LL 0 0 ∧ Fr n0 LL := ⟨_, X162, NF⟩
    clear X162 NF
    obtain ⟨LL163, X162, NF⟩ := hXN
    show WP p.tables e below _ T162 (mkF m 45 #[.val (.ref a1)] [])
    refine WP.st (T' := T162) (f' := (mkF m 47 #[.val (.ref a1)] [(.int (0 : Int32)), (.ref a1)])) (fun t k => ?_) ?_
    · refine XS.aloadN X162.here hx rfl (hb hby d17_45) rfl rfl ?_
      show Steps p.tables e below (T162.setTop (mkF m 46 #[.val (.ref a1)] [(.ref a1)])) t
      refine XS.iconst X162.here hx rfl (hb hby d17_46) ?_
      exact k
    obtain ⟨T164, h164, X164, e164, W164, st164⟩ := putFN X162 hx hZ hown (w_88 hw) Via.refl e162 F_a1_attributeList E_a1 (Or.inl (w_89 hw)) (w_38 hw) (ty := .boolean) (v := (.int (0 : Int32))) (v' := (.int (0 : Int32))) (by decide) rfl (by decide) (g := (mkF m 47 #[.val (.ref a1)] [(.int (0 : Int32)), (.ref a1)])) rfl rfl (hb hby d17_47)
    refine WP.st st164 ?_
    clear st164
    replace E_a1 := E_a1.wr W164
    replace F_a1_internalParameterEntity := F_a1_internalParameterEntity.other W164 (Or.inr (sn_34 hw))
    replace F_a1_internalGeneralEntity := F_a1_internalGeneralEntity.other W164 (Or.inr (sn_35 hw))
    replace F_a1_attributeList := F_a1_attributeList.same W164
    replace F_a1_documentTypeDeclaration := F_a1_documentTypeDeclaration.other W164 (Or.inr (sn_36 hw))
    replace F_a1_declaringBytes := F_a1_declaringBytes.other W164 (Or.inr (sn_37 hw))
    replace F_a1_bytes := F_a1_bytes.other W164 (Or.inr (sn_38 hw))
    replace F_a1_stretch := F_a1_stretch.other W164 (Or.inr (sn_39 hw))
    replace F_a1_started := F_a1_started.other W164 (Or.inr (sn_40 hw))
    replace Z0 := Nat.le_trans Z0 (Keep.of_wr W164).1
    replace KP := KP.wr W164 (Or.inl (List.mem_of_getElem? (i := 0) rfl))
    replace NF := Fr.snoc X164 NF g_a1
    clear W164
    have hXN : ∃ LL, Stand p l e ({ frames := 0, cells := 0, slots := 0, locals := 0 } : Room) s m #[(.ref a1)] below meth c T164 LL 0 0 ∧ Fr n0 LL := ⟨_, X164, NF⟩
    clear X164 NF
    obtain ⟨LL165, X164, NF⟩ := hXN
    show WP p.tables e below _ T164 (mkF m 50 #[.val (.ref a1)] [])
    refine WP.st (T' := T164) (f' := (mkF m 52 #[.val (.ref a1)] [(.int (0 : Int32)), (.ref a1)])) (fun t k => ?_) ?_
    · refine XS.aloadN X164.here hx rfl (hb hby d17_50) rfl rfl ?_
      show Steps p.tables e below (T164.setTop (mkF m 51 #[.val (.ref a1)] [(.ref a1)])) t
      refine XS.iconst X164.here hx rfl (hb hby d17_51) ?_
      exact k
    obtain ⟨T166, h166, X166, e166, W166, st166⟩ := putFN X164 hx hZ hown (w_95 hw) Via.refl e164 F_a1_documentTypeDeclaration E_a1 (Or.inl (w_96 hw)) (w_38 hw) (ty := .boolean) (v := (.int (0 : Int32))) (v' := (.int (0 : Int32))) (by decide) rfl (by decide) (g := (mkF m 52 #[.val (.ref a1)] [(.int (0 : Int32)), (.ref a1)])) rfl rfl (hb hby d17_52)
    refine WP.st st166 ?_
    clear st166
    replace E_a1 := E_a1.wr W166
    replace F_a1_internalParameterEntity := F_a1_internalParameterEntity.other W166 (Or.inr (sn_41 hw))
    replace F_a1_internalGeneralEntity := F_a1_internalGeneralEntity.other W166 (Or.inr (sn_42 hw))
    replace F_a1_attributeList := F_a1_attributeList.other W166 (Or.inr (sn_43 hw))
    replace F_a1_documentTypeDeclaration := F_a1_documentTypeDeclaration.same W166
    replace F_a1_declaringBytes := F_a1_declaringBytes.other W166 (Or.inr (sn_44 hw))
    replace F_a1_bytes := F_a1_bytes.other W166 (Or.inr (sn_45 hw))
    replace F_a1_stretch := F_a1_stretch.other W166 (Or.inr (sn_46 hw))
    replace F_a1_started := F_a1_started.other W166 (Or.inr (sn_47 hw))
    replace Z0 := Nat.le_trans Z0 (Keep.of_wr W166).1
    replace KP := KP.wr W166 (Or.inl (List.mem_of_getElem? (i := 0) rfl))
    replace NF := Fr.snoc X166 NF g_a1
    clear W166
    have hXN : ∃ LL, Stand p l e ({ frames := 0, cells := 0, slots := 0, locals := 0 } : Room) s m #[(.ref a1)] below meth c T166 LL 0 0 ∧ Fr n0 LL := ⟨_, X166, NF⟩
    clear X166 NF
    obtain ⟨LL167, X166, NF⟩ := hXN
    show WP p.tables e below _ T166 (mkF m 55 #[.val (.ref a1)] [])
    subst hG
    obtain ⟨fs, hr, hrun, hended, hW, hsame⟩ := X166.leave (v := none) (fun _ => rfl)
    refine WP.fin ⟨_, _, ?_, hrun, hended, _, _, rfl, ?_, ⟨_, rfl⟩, hW, hsame.mono (by decide) (by decide)⟩
    · exact X166.returnOut hx Bd.returns (hb hby d17_55) hr
    · show Q17 Z a1 u_internalParameterEntity u_internalGeneralEntity u_attributeList u_documentTypeDeclaration u_declaringBytes u_bytes u_stretch u_started h0 n0 _ T166.heap _
      rw [e166]
      exact ⟨rfl, NF, KP, F_a1_internalParameterEntity, F_a1_internalGeneralEntity, F_a1_attributeList, F_a1_documentTypeDeclaration, (by simpa [hc153] using F_a1_declaringBytes), F_a1_bytes, F_a1_stretch, F_a1_started⟩
  · skip
    refine WP.st (T' := T152) (f' := (mkF m 9 #[.val (.ref a1)] [(.ref a1), (.ref a1)])) (fun t k => ?_) ?_
    · refine XS.ifNo X152.here hx rfl (hb hby d17_4) rfl ((if0 _ _).trans (feq hc153).1) ?_
      show Steps p.tables e below (T152.setTop (mkF m 7 #[.val (.ref a1)] [])) t
      refine XS.aloadN X152.here hx rfl (hb hby d17_7) rfl rfl ?_
      show Steps p.tables e below (T152.setTop (mkF m 8 #[.val (.ref a1)] [(.ref a1)])) t
      refine XS.dup X152.here hx rfl (hb hby d17_8) rfl rfl ?_
      exact k
    obtain ⟨T168, X168, e168, st168⟩ := getF X152 hx hZ hown (host := "") (Or.inl (w_102 hw)) Via.refl e152 F_a1_declaringBytes (g := (mkF m 9 #[.val (.ref a1)] [(.ref a1), (.ref a1)])) rfl rfl (hb hby d17_9)
    refine WP.st st168 ?_
    clear st168
    show WP p.tables e below _ T168 (mkF m 12 #[.val (.ref a1)] [(.long u_declaringBytes), (.ref a1)])
    refine WP.st (T' := T168) (f' := (mkF m 13 #[.val (.ref a1)] [(.ref a1), (.long u_declaringBytes), (.ref a1)])) (fun t k => ?_) ?_
    · refine XS.aloadN X168.here hx rfl (hb hby d17_12) rfl rfl ?_
      exact k
    obtain ⟨T169, X169, e169, st169⟩ := getF X168 hx hZ hown (host := "") (Or.inl (w_104 hw)) Via.refl e168 F_a1_bytes (g := (mkF m 13 #[.val (.ref a1)] [(.ref a1), (.long u_declaringBytes), (.ref a1)])) rfl rfl (hb hby d17_13)
    refine WP.st st169 ?_
    clear st169
    show WP p.tables e below _ T169 (mkF m 16 #[.val (.ref a1)] [(.long u_bytes), (.long u_declaringBytes), (.ref a1)])
    refine WP.st (T' := T169) (f' := (mkF m 17 #[.val (.ref a1)] [(.long (u_declaringBytes + u_bytes)), (.ref a1)])) (fun t k => ?_) ?_
    · refine XS.ladd X169.here hx rfl (hb hby d17_16) rfl ?_
      exact k
    obtain ⟨T170, h170, X170, e170, W170, st170⟩ := putF X169 hx hZ hown (host := "") (Or.inl (w_102 hw)) Via.refl e169 F_a1_declaringBytes E_a1 (Or.inl (w_103 hw)) (w_38 hw) (ty := .long) (by decide) rfl rfl (g := (mkF m 17 #[.val (.ref a1)] [(.long (u_declaringBytes + u_bytes)), (.ref a1)])) rfl rfl (hb hby d17_17)
    refine WP.st st170 ?_
    clear st170
    replace E_a1 := E_a1.wr W170
    replace F_a1_internalParameterEntity := F_a1_internalParameterEntity.other W170 (Or.inr (sn_69 hw))
    replace F_a1_internalGeneralEntity := F_a1_internalGeneralEntity.other W170 (Or.inr (sn_70 hw))
    replace F_a1_attributeList := F_a1_attributeList.other W170 (Or.inr (sn_71 hw))
    replace F_a1_documentTypeDeclaration := F_a1_documentTypeDeclaration.other W170 (Or.inr (sn_72 hw))
    replace F_a1_declaringBytes := F_a1_declaringBytes.same W170
    replace F_a1_bytes := F_a1_bytes.other W170 (Or.inr (sn_73 hw))
    replace F_a1_stretch := F_a1_stretch.other W170 (Or.inr (sn_74 hw))
    replace F_a1_started := F_a1_started.other W170 (Or.inr (sn_75 hw))
    replace Z0 := Nat.le_trans Z0 (Keep.of_wr W170).1
    replace KP := KP.wr W170 (Or.inl (List.mem_of_getElem? (i := 0) rfl))
    replace NF := Fr.snoc X170 NF g_a1
    clear W170
    have hXN : ∃ LL, Stand p l e ({ frames := 0, cells := 0, slots := 0, locals := 0 } : Room) s m #[(.ref a1)] below meth c T170 LL 0 0 ∧ Fr n0 LL := ⟨_, X170, NF⟩
    clear X170 NF
    obtain ⟨LL171, X170, NF⟩ := hXN
    show WP p.tables e below _ T170 (mkF m 20 #[.val (.ref a1)] [])
    refine WP.st (T' := T170) (f' := (mkF m 22 #[.val (.ref a1)] [(.long (0 : Int64)), (.ref a1)])) (fun t k => ?_) ?_
    · refine XS.aloadN X170.here hx rfl (hb hby d17_20) rfl rfl ?_
      show Steps p.tables e below (T170.setTop (mkF m 21 #[.val (.ref a1)] [(.ref a1)])) t
      refine XS.lconst X170.here hx rfl (hb hby d17_21) ?_
      exact k
    obtain ⟨T172, h172, X172, e172, W172, st172⟩ := putF X170 hx hZ hown (host := "") (Or.inl (w_104 hw)) Via.refl e170 F_a1_bytes E_a1 (Or.inl (w_105 hw)) (w_38 hw) (ty := .long) (by decide) rfl rfl (g := (mkF m 22 #[.val (.ref a1)] [(.long (0 : Int64)), (.ref a1)])) rfl rfl (hb hby d17_22)
    refine WP.st st172 ?_
    clear st172
    replace E_a1 := E_a1.wr W172
    replace F_a1_internalParameterEntity := F_a1_internalParameterEntity.other W172 (Or.inr (sn_48 hw))
    replace F_a1_internalGeneralEntity := F_a1_internalGeneralEntity.other W172 (Or.inr (sn_49 hw))
    replace F_a1_attributeList := F_a1_attributeList.other W172 (Or.inr (sn_50 hw))
    replace F_a1_documentTypeDeclaration := F_a1_documentTypeDeclaration.other W172 (Or.inr (sn_51 hw))
    replace F_a1_declaringBytes := F_a1_declaringBytes.other W172 (Or.inr (sn_52 hw))
    replace F_a1_bytes := F_a1_bytes.same W172
    replace F_a1_stretch := F_a1_stretch.other W172 (Or.inr (sn_53 hw))
    replace F_a1_started := F_a1_started.other W172 (Or.inr (sn_54 hw))
    replace Z0 := Nat.le_trans Z0 (Keep.of_wr W172).1
    replace KP := KP.wr W172 (Or.inl (List.mem_of_getElem? (i := 0) rfl))
    replace NF := Fr.snoc X172 NF g_a1
    clear W172
    have hXN : ∃ LL, Stand p l e ({ frames := 0, cells := 0, slots := 0, locals := 0 } : Room) s m #[(.ref a1)] below meth c T172 LL 0 0 ∧ Fr n0 LL := ⟨_, X172, NF⟩
    clear X172 NF
    obtain ⟨LL173, X172, NF⟩ := hXN
    show WP p.tables e below _ T172 (mkF m 25 #[.val (.ref a1)] [])
    refine WP.st (T' := T172) (f' := (mkF m 27 #[.val (.ref a1)] [(.long (0 : Int64)), (.ref a1)])) (fun t k => ?_) ?_
    · refine XS.aloadN X172.here hx rfl (hb hby d17_25) rfl rfl ?_
      show Steps p.tables e below (T172.setTop (mkF m 26 #[.val (.ref a1)] [(.ref a1)])) t
      refine XS.lconst X172.here hx rfl (hb hby d17_26) ?_
      exact k
    obtain ⟨T174, h174, X174, e174, W174, st174⟩ := putF X172 hx hZ hown (host := "") (Or.inl (w_106 hw)) Via.refl e172 F_a1_stretch E_a1 (Or.inl (w_107 hw)) (w_38 hw) (ty := .long) (by decide) rfl rfl (g := (mkF m 27 #[.val (.ref a1)] [(.long (0 : Int64)), (.ref a1)])) rfl rfl (hb hby d17_27)
    refine WP.st st174 ?_
    clear st174
    replace E_a1 := E_a1.wr W174
    replace F_a1_internalParameterEntity := F_a1_internalParameterEntity.other W174 (Or.inr (sn_55 hw))
    replace F_a1_internalGeneralEntity := F_a1_internalGeneralEntity.other W174 (Or.inr (sn_56 hw))
    replace F_a1_attributeList := F_a1_attributeList.other W174 (Or.inr (sn_57 hw))
    replace F_a1_documentTypeDeclaration := F_a1_documentTypeDeclaration.other W174 (Or.inr (sn_58 hw))
    replace F_a1_declaringBytes := F_a1_declaringBytes.other W174 (Or.inr (sn_59 hw))
    replace F_a1_bytes := F_a1_bytes.other W174 (Or.inr (sn_60 hw))
    replace F_a1_stretch := F_a1_stretch.same W174
    replace F_a1_started := F_a1_started.other W174 (Or.inr (sn_61 hw))
    replace Z0 := Nat.le_trans Z0 (Keep.of_wr W174).1
    replace KP := KP.wr W174 (Or.inl (List.mem_of_getElem? (i := 0) rfl))
    replace NF := Fr.snoc X174 NF g_a1
    clear W174
    have hXN : ∃ LL, Stand p l e ({ frames := 0, cells := 0, slots := 0, locals := 0 } : Room) s m #[(.ref a1)] below meth c T174 LL 0 0 ∧ Fr n0 LL := ⟨_, X174, NF⟩
    clear X174 NF
    obtain ⟨LL175, X174, NF⟩ := hXN
    show WP p.tables e below _ T174 (mkF m 30 #[.val (.ref a1)] [])
    refine WP.st (T' := T174) (f' := (mkF m 32 #[.val (.ref a1)] [(.int (0 : Int32)), (.ref a1)])) (fun t k => ?_) ?_
    · refine XS.aloadN X174.here hx rfl (hb hby d17_30) rfl rfl ?_
      show Steps p.tables e below (T174.setTop (mkF m 31 #[.val (.ref a1)] [(.ref a1)])) t
      refine XS.iconst X174.here hx rfl (hb hby d17_31) ?_
      exact k
    obtain ⟨T176, h176, X176, e176, W176, st176⟩ := putFN X174 hx hZ hown (w_108 hw) Via.refl e174 F_a1_started E_a1 (Or.inl (w_109 hw)) (w_38 hw) (ty := .boolean) (v := (.int (0 : Int32))) (v' := (.int (0 : Int32))) (by decide) rfl (by decide) (g := (mkF m 32 #[.val (.ref a1)] [(.int (0 : Int32)), (.ref a1)])) rfl rfl (hb hby d17_32)
    refine WP.st st176 ?_
    clear st176
    replace E_a1 := E_a1.wr W176
    replace F_a1_internalParameterEntity := F_a1_internalParameterEntity.other W176 (Or.inr (sn_62 hw))
    replace F_a1_internalGeneralEntity := F_a1_internalGeneralEntity.other W176 (Or.inr (sn_63 hw))
    replace F_a1_attributeList := F_a1_attributeList.other W176 (Or.inr (sn_64 hw))
    replace F_a1_documentTypeDeclaration := F_a1_documentTypeDeclaration.other W176 (Or.inr (sn_65 hw))
    replace F_a1_declaringBytes := F_a1_declaringBytes.other W176 (Or.inr (sn_66 hw))
    replace F_a1_bytes := F_a1_bytes.other W176 (Or.inr (sn_67 hw))
    replace F_a1_stretch := F_a1_stretch.other W176 (Or.inr (sn_68 hw))
    replace F_a1_started := F_a1_started.same W176
    replace Z0 := Nat.le_trans Z0 (Keep.of_wr W176).1
    replace KP := KP.wr W176 (Or.inl (List.mem_of_getElem? (i := 0) rfl))
    replace NF := Fr.snoc X176 NF g_a1
    clear W176
    have hXN : ∃ LL, Stand p l e ({ frames := 0, cells := 0, slots := 0, locals := 0 } : Room) s m #[(.ref a1)] below meth c T176 LL 0 0 ∧ Fr n0 LL := ⟨_, X176, NF⟩
    clear X176 NF
    obtain ⟨LL177, X176, NF⟩ := hXN
    show WP p.tables e below _ T176 (mkF m 35 #[.val (.ref a1)] [])
    refine WP.st (T' := T176) (f' := (mkF m 37 #[.val (.ref a1)] [(.int (0 : Int32)), (.ref a1)])) (fun t k => ?_) ?_
    · refine XS.aloadN X176.here hx rfl (hb hby d17_35) rfl rfl ?_
      show Steps p.tables e below (T176.setTop (mkF m 36 #[.val (.ref a1)] [(.ref a1)])) t
      refine XS.iconst X176.here hx rfl (hb hby d17_36) ?_
      exact k
    obtain ⟨T178, h178, X178, e178, W178, st178⟩ := putFN X176 hx hZ hown (w_56 hw) Via.refl e176 F_a1_internalGeneralEntity E_a1 (Or.inl (w_57 hw)) (w_38 hw) (ty := .boolean) (v := (.int (0 : Int32))) (v' := (.int (0 : Int32))) (by decide) rfl (by decide) (g := (mkF m 37 #[.val (.ref a1)] [(.int (0 : Int32)), (.ref a1)])) rfl rfl (hb hby d17_37)
    refine WP.st st178 ?_
    clear st178
    replace E_a1 := E_a1.wr W178
    replace F_a1_internalParameterEntity := F_a1_internalParameterEntity.other W178 (Or.inr (sn_27 hw))
    replace F_a1_internalGeneralEntity := F_a1_internalGeneralEntity.same W178
    replace F_a1_attributeList := F_a1_attributeList.other W178 (Or.inr (sn_28 hw))
    replace F_a1_documentTypeDeclaration := F_a1_documentTypeDeclaration.other W178 (Or.inr (sn_29 hw))
    replace F_a1_declaringBytes := F_a1_declaringBytes.other W178 (Or.inr (sn_30 hw))
    replace F_a1_bytes := F_a1_bytes.other W178 (Or.inr (sn_31 hw))
    replace F_a1_stretch := F_a1_stretch.other W178 (Or.inr (sn_32 hw))
    replace F_a1_started := F_a1_started.other W178 (Or.inr (sn_33 hw))
    replace Z0 := Nat.le_trans Z0 (Keep.of_wr W178).1
    replace KP := KP.wr W178 (Or.inl (List.mem_of_getElem? (i := 0) rfl))
    replace NF := Fr.snoc X178 NF g_a1
    clear W178
    have hXN : ∃ LL, Stand p l e ({ frames := 0, cells := 0, slots := 0, locals := 0 } : Room) s m #[(.ref a1)] below meth c T178 LL 0 0 ∧ Fr n0 LL := ⟨_, X178, NF⟩
    clear X178 NF
    obtain ⟨LL179, X178, NF⟩ := hXN
    show WP p.tables e below _ T178 (mkF m 40 #[.val (.ref a1)] [])
    refine WP.st (T' := T178) (f' := (mkF m 42 #[.val (.ref a1)] [(.int (0 : Int32)), (.ref a1)])) (fun t k => ?_) ?_
    · refine XS.aloadN X178.here hx rfl (hb hby d17_40) rfl rfl ?_
      show Steps p.tables e below (T178.setTop (mkF m 41 #[.val (.ref a1)] [(.ref a1)])) t
      refine XS.iconst X178.here hx rfl (hb hby d17_41) ?_
      exact k
    obtain ⟨T180, h180, X180, e180, W180, st180⟩ := putFN X178 hx hZ hown (w_54 hw) Via.refl e178 F_a1_internalParameterEntity E_a1 (Or.inl (w_55 hw)) (w_38 hw) (ty := .boolean) (v := (.int (0 : Int32))) (v' := (.int (0 : Int32))) (by decide) rfl (by decide) (g := (mkF m 42 #[.val (.ref a1)] [(.int (0 : Int32)), (.ref a1)])) rfl rfl (hb hby d17_42)
    refine WP.st st180 ?_
    clear st180
    replace E_a1 := E_a1.wr W180
    replace F_a1_internalParameterEntity := F_a1_internalParameterEntity.same W180
    replace F_a1_internalGeneralEntity := F_a1_internalGeneralEntity.other W180 (Or.inr (sn_20 hw))
    replace F_a1_attributeList := F_a1_attributeList.other W180 (Or.inr (sn_21 hw))
    replace F_a1_documentTypeDeclaration := F_a1_documentTypeDeclaration.other W180 (Or.inr (sn_22 hw))
    replace F_a1_declaringBytes := F_a1_declaringBytes.other W180 (Or.inr (sn_23 hw))
    replace F_a1_bytes := F_a1_bytes.other W180 (Or.inr (sn_24 hw))
    replace F_a1_stretch := F_a1_stretch.other W180 (Or.inr (sn_25 hw))
    replace F_a1_started := F_a1_started.other W180 (Or.inr (sn_26 hw))
    replace Z0 := Nat.le_trans Z0 (Keep.of_wr W180).1
    replace KP := KP.wr W180 (Or.inl (List.mem_of_getElem? (i := 0) rfl))
    replace NF := Fr.snoc X180 NF g_a1
    clear W180
    have hXN : ∃ LL, Stand p l e ({ frames := 0, cells := 0, slots := 0, locals := 0 } : Room) s m #[(.ref a1)] below meth c T180 LL 0 0 ∧ Fr n0 LL := ⟨_, X180, NF⟩
    clear X180 NF
    obtain ⟨LL181, X180, NF⟩ := hXN
    show WP p.tables e below _ T180 (mkF m 45 #[.val (.ref a1)] [])
    refine WP.st (T' := T180) (f' := (mkF m 47 #[.val (.ref a1)] [(.int (0 : Int32)), (.ref a1)])) (fun t k => ?_) ?_
    · refine XS.aloadN X180.here hx rfl (hb hby d17_45) rfl rfl ?_
      show Steps p.tables e below (T180.setTop (mkF m 46 #[.val (.ref a1)] [(.ref a1)])) t
      refine XS.iconst X180.here hx rfl (hb hby d17_46) ?_
      exact k
    obtain ⟨T182, h182, X182, e182, W182, st182⟩ := putFN X180 hx hZ hown (w_88 hw) Via.refl e180 F_a1_attributeList E_a1 (Or.inl (w_89 hw)) (w_38 hw) (ty := .boolean) (v := (.int (0 : Int32))) (v' := (.int (0 : Int32))) (by decide) rfl (by decide) (g := (mkF m 47 #[.val (.ref a1)] [(.int (0 : Int32)), (.ref a1)])) rfl rfl (hb hby d17_47)
    refine WP.st st182 ?_
    clear st182
    replace E_a1 := E_a1.wr W182
    replace F_a1_internalParameterEntity := F_a1_internalParameterEntity.other W182 (Or.inr (sn_34 hw))
    replace F_a1_internalGeneralEntity := F_a1_internalGeneralEntity.other W182 (Or.inr (sn_35 hw))
    replace F_a1_attributeList := F_a1_attributeList.same W182
    replace F_a1_documentTypeDeclaration := F_a1_documentTypeDeclaration.other W182 (Or.inr (sn_36 hw))
    replace F_a1_declaringBytes := F_a1_declaringBytes.other W182 (Or.inr (sn_37 hw))
    replace F_a1_bytes := F_a1_bytes.other W182 (Or.inr (sn_38 hw))
    replace F_a1_stretch := F_a1_stretch.other W182 (Or.inr (sn_39 hw))
    replace F_a1_started := F_a1_started.other W182 (Or.inr (sn_40 hw))
    replace Z0 := Nat.le_trans Z0 (Keep.of_wr W182).1
    replace KP := KP.wr W182 (Or.inl (List.mem_of_getElem? (i := 0) rfl))
    replace NF := Fr.snoc X182 NF g_a1
    clear W182
    have hXN : ∃ LL, Stand p l e ({ frames := 0, cells := 0, slots := 0, locals := 0 } : Room) s m #[(.ref a1)] below meth c T182 LL 0 0 ∧ Fr n0 LL := ⟨_, X182, NF⟩
    clear X182 NF
    obtain ⟨LL183, X182, NF⟩ := hXN
    show WP p.tables e below _ T182 (mkF m 50 #[.val (.ref a1)] [])
    refine WP.st (T' := T182) (f' := (mkF m 52 #[.val (.ref a1)] [(.int (0 : Int32)), (.ref a1)])) (fun t k => ?_) ?_
    · refine XS.aloadN X182.here hx rfl (hb hby d17_50) rfl rfl ?_
      show Steps p.tables e below (T182.setTop (mkF m 51 #[.val (.ref a1)] [(.ref a1)])) t
      refine XS.iconst X182.here hx rfl (hb hby d17_51) ?_
      exact k
    obtain ⟨T184, h184, X184, e184, W184, st184⟩ := putFN X182 hx hZ hown (w_95 hw) Via.refl e182 F_a1_documentTypeDeclaration E_a1 (Or.inl (w_96 hw)) (w_38 hw) (ty := .boolean) (v := (.int (0 : Int32))) (v' := (.int (0 : Int32))) (by decide) rfl (by decide) (g := (mkF m 52 #[.val (.ref a1)] [(.int (0 : Int32)), (.ref a1)])) rfl rfl (hb hby d17_52)
    refine WP.st st184 ?_
    clear st184
    replace E_a1 := E_a1.wr W184
    replace F_a1_internalParameterEntity := F_a1_internalParameterEntity.other W184 (Or.inr (sn_41 hw))
    replace F_a1_internalGeneralEntity := F_a1_internalGeneralEntity.other W184 (Or.inr (sn_42 hw))
    replace F_a1_attributeList := F_a1_attributeList.other W184 (Or.inr (sn_43 hw))
    replace F_a1_documentTypeDeclaration := F_a1_documentTypeDeclaration.same W184
    replace F_a1_declaringBytes := F_a1_declaringBytes.other W184 (Or.inr (sn_44 hw))
    replace F_a1_bytes := F_a1_bytes.other W184 (Or.inr (sn_45 hw))
    replace F_a1_stretch := F_a1_stretch.other W184 (Or.inr (sn_46 hw))
    replace F_a1_started := F_a1_started.other W184 (Or.inr (sn_47 hw))
    replace Z0 := Nat.le_trans Z0 (Keep.of_wr W184).1
    replace KP := KP.wr W184 (Or.inl (List.mem_of_getElem? (i := 0) rfl))
    replace NF := Fr.snoc X184 NF g_a1
    clear W184
    have hXN : ∃ LL, Stand p l e ({ frames := 0, cells := 0, slots := 0, locals := 0 } : Room) s m #[(.ref a1)] below meth c T184 LL 0 0 ∧ Fr n0 LL := ⟨_, X184, NF⟩
    clear X184 NF
    obtain ⟨LL185, X184, NF⟩ := hXN
    show WP p.tables e below _ T184 (mkF m 55 #[.val (.ref a1)] [])
    subst hG
    obtain ⟨fs, hr, hrun, hended, hW, hsame⟩ := X184.leave (v := none) (fun _ => rfl)
    refine WP.fin ⟨_, _, ?_, hrun, hended, _, _, rfl, ?_, ⟨_, rfl⟩, hW, hsame.mono (by decide) (by decide)⟩
    · exact X184.returnOut hx Bd.returns (hb hby d17_55) hr
    · show Q17 Z a1 u_internalParameterEntity u_internalGeneralEntity u_attributeList u_documentTypeDeclaration u_declaringBytes u_bytes u_stretch u_started h0 n0 _ T184.heap _
      rw [e184]
      exact ⟨rfl, NF, KP, F_a1_internalParameterEntity, F_a1_internalGeneralEntity, F_a1_attributeList, F_a1_documentTypeDeclaration, (by simpa [hc153] using F_a1_declaringBytes), F_a1_bytes, F_a1_stretch, F_a1_started⟩
theorem ef_0 (m : MethodId) (z0 : Int32) (z1 : Int32) (z2 : Int32) : entryFrame m #[(.int z0), (.int z1), (.int z2)] maxLocals = mkF m 0 #[.val (.int z0), .val (.int z1), .val (.int z2), .unset, .unset, .unset, .unset, .unset, .unset, .unset, .unset] [] := by
  all_goals first | (simp [entryFrame, mkF, argsToLocals, Value.category, maxLocals]; done) | rfl
theorem w_0 {a0 : Array Value} {Z : State} (hw : ∀ d ∈ tables_1, d.before a0 Z = true) : (Jvm.Cond.methodLink "com/example/skope/skope/xml/IntakeReplacedUncountedPinLaw" (24 : Nat) ({ cls := "com/example/skope/skope/xml/IntakeReplacedUncountedPinLaw", name := "name", desc := "(I)Ljava/lang/String;" } : Jvm.MethodName)).before a0 Z = true := hw _ (List.mem_of_getElem? (i := 0) rfl)
theorem w_3 {a0 : Array Value} {Z : State} (hw : ∀ d ∈ tables_1, d.before a0 Z = true) : (Jvm.Cond.code ({ cls := "com/example/skope/skope/xml/IntakeReplacedUncountedPinLaw", name := "name", desc := "(I)Ljava/lang/String;" } : Jvm.MethodName) method_2_code (4 : Nat) (Option.some (Jvm.ClassFile.FieldType.object "java/lang/String"))).before a0 Z = true := hw _ (List.mem_of_getElem? (i := 3) rfl)
theorem w_2 {a0 : Array Value} {Z : State} (hw : ∀ d ∈ tables_1, d.before a0 Z = true) : (Jvm.Cond.initialized "com/example/skope/skope/xml/IntakeReplacedUncountedPinLaw").before a0 Z = true := hw _ (List.mem_of_getElem? (i := 2) rfl)
theorem pd_12 : parseMethodDescriptor "(I)Ljava/lang/String;" = some ⟨[.int], some (.object "java/lang/String")⟩ := by decide +kernel
theorem w_1 {a0 : Array Value} {Z : State} (hw : ∀ d ∈ tables_1, d.before a0 Z = true) : (Jvm.Cond.static ({ cls := "com/example/skope/skope/xml/IntakeReplacedUncountedPinLaw", name := "name", desc := "(I)Ljava/lang/String;" } : Jvm.MethodName)).before a0 Z = true := hw _ (List.mem_of_getElem? (i := 1) rfl)
theorem w_37 {a0 : Array Value} {Z : State} (hw : ∀ d ∈ tables_1, d.before a0 Z = true) : (Jvm.Cond.classLink "com/example/skope/skope/xml/IntakeReplacedUncountedPinLaw" (30 : Nat) "com/example/skope/skope/xml/Intake").before a0 Z = true := hw _ (List.mem_of_getElem? (i := 37) rfl)
theorem w_39 {a0 : Array Value} {Z : State} (hw : ∀ d ∈ tables_1, d.before a0 Z = true) : (Jvm.Cond.initialized "com/example/skope/skope/xml/Intake").before a0 Z = true := hw _ (List.mem_of_getElem? (i := 39) rfl)
theorem w_40 {a0 : Array Value} {Z : State} (hw : ∀ d ∈ tables_1, d.before a0 Z = true) : (Jvm.Cond.methodLink "com/example/skope/skope/xml/IntakeReplacedUncountedPinLaw" (32 : Nat) ({ cls := "com/example/skope/skope/xml/Intake", name := "<init>", desc := "()V" } : Jvm.MethodName)).before a0 Z = true := hw _ (List.mem_of_getElem? (i := 40) rfl)
theorem w_42 {a0 : Array Value} {Z : State} (hw : ∀ d ∈ tables_1, d.before a0 Z = true) : (Jvm.Cond.code ({ cls := "com/example/skope/skope/xml/Intake", name := "<init>", desc := "()V" } : Jvm.MethodName) prog_26_method_1_code (1 : Nat) (Option.none : Option Jvm.ClassFile.FieldType)).before a0 Z = true := hw _ (List.mem_of_getElem? (i := 42) rfl)
theorem pd_13 : parseMethodDescriptor "()V" = some ⟨[], none⟩ := by decide +kernel
theorem w_41 {a0 : Array Value} {Z : State} (hw : ∀ d ∈ tables_1, d.before a0 Z = true) : (Jvm.Cond.instanceMethod ({ cls := "com/example/skope/skope/xml/Intake", name := "<init>", desc := "()V" } : Jvm.MethodName)).before a0 Z = true := hw _ (List.mem_of_getElem? (i := 41) rfl)
theorem w_49 {a0 : Array Value} {Z : State} (hw : ∀ d ∈ tables_1, d.before a0 Z = true) : (Jvm.Cond.methodLink "com/example/skope/skope/xml/IntakeReplacedUncountedPinLaw" (47 : Nat) ({ cls := "com/example/skope/skope/xml/Intake", name := "replacedUncounted", desc := "()Z" } : Jvm.MethodName)).before a0 Z = true := hw _ (List.mem_of_getElem? (i := 49) rfl)
theorem w_53 {a0 : Array Value} {Z : State} (hw : ∀ d ∈ tables_1, d.before a0 Z = true) : (Jvm.Cond.code ({ cls := "com/example/skope/skope/xml/Intake", name := "replacedUncounted", desc := "()Z" } : Jvm.MethodName) prog_26_method_13_code (1 : Nat) (Option.some Jvm.ClassFile.FieldType.boolean)).before a0 Z = true := hw _ (List.mem_of_getElem? (i := 53) rfl)
theorem pd_14 : parseMethodDescriptor "()Z" = some ⟨[], some .boolean⟩ := by decide +kernel
theorem w_52 {a0 : Array Value} {Z : State} (hw : ∀ d ∈ tables_1, d.before a0 Z = true) : (Jvm.Cond.selects "com/example/skope/skope/xml/Intake" ({ cls := "com/example/skope/skope/xml/Intake", name := "replacedUncounted", desc := "()Z" } : Jvm.MethodName) ({ cls := "com/example/skope/skope/xml/Intake", name := "replacedUncounted", desc := "()Z" } : Jvm.MethodName)).before a0 Z = true := hw _ (List.mem_of_getElem? (i := 52) rfl)
theorem w_50 {a0 : Array Value} {Z : State} (hw : ∀ d ∈ tables_1, d.before a0 Z = true) : (Jvm.Cond.declares ({ cls := "com/example/skope/skope/xml/Intake", name := "replacedUncounted", desc := "()Z" } : Jvm.MethodName)).before a0 Z = true := hw _ (List.mem_of_getElem? (i := 50) rfl)
theorem w_51 {a0 : Array Value} {Z : State} (hw : ∀ d ∈ tables_1, d.before a0 Z = true) : (Jvm.Cond.instanceMethod ({ cls := "com/example/skope/skope/xml/Intake", name := "replacedUncounted", desc := "()Z" } : Jvm.MethodName)).before a0 Z = true := hw _ (List.mem_of_getElem? (i := 51) rfl)
theorem w_124 {a0 : Array Value} {Z : State} (hw : ∀ d ∈ tables_1, d.before a0 Z = true) : (Jvm.Cond.methodLink "com/example/skope/skope/xml/IntakeReplacedUncountedPinLaw" (41 : Nat) ({ cls := "com/example/skope/skope/xml/Intake", name := "addAttributeList", desc := "()V" } : Jvm.MethodName)).before a0 Z = true := hw _ (List.mem_of_getElem? (i := 124) rfl)
theorem w_128 {a0 : Array Value} {Z : State} (hw : ∀ d ∈ tables_1, d.before a0 Z = true) : (Jvm.Cond.code ({ cls := "com/example/skope/skope/xml/Intake", name := "addAttributeList", desc := "()V" } : Jvm.MethodName) prog_26_method_12_code (1 : Nat) (Option.none : Option Jvm.ClassFile.FieldType)).before a0 Z = true := hw _ (List.mem_of_getElem? (i := 128) rfl)
theorem w_127 {a0 : Array Value} {Z : State} (hw : ∀ d ∈ tables_1, d.before a0 Z = true) : (Jvm.Cond.selects "com/example/skope/skope/xml/Intake" ({ cls := "com/example/skope/skope/xml/Intake", name := "addAttributeList", desc := "()V" } : Jvm.MethodName) ({ cls := "com/example/skope/skope/xml/Intake", name := "addAttributeList", desc := "()V" } : Jvm.MethodName)).before a0 Z = true := hw _ (List.mem_of_getElem? (i := 127) rfl)
theorem w_125 {a0 : Array Value} {Z : State} (hw : ∀ d ∈ tables_1, d.before a0 Z = true) : (Jvm.Cond.declares ({ cls := "com/example/skope/skope/xml/Intake", name := "addAttributeList", desc := "()V" } : Jvm.MethodName)).before a0 Z = true := hw _ (List.mem_of_getElem? (i := 125) rfl)
theorem w_126 {a0 : Array Value} {Z : State} (hw : ∀ d ∈ tables_1, d.before a0 Z = true) : (Jvm.Cond.instanceMethod ({ cls := "com/example/skope/skope/xml/Intake", name := "addAttributeList", desc := "()V" } : Jvm.MethodName)).before a0 Z = true := hw _ (List.mem_of_getElem? (i := 126) rfl)
theorem w_58 {a0 : Array Value} {Z : State} (hw : ∀ d ∈ tables_1, d.before a0 Z = true) : (Jvm.Cond.methodLink "com/example/skope/skope/xml/IntakeReplacedUncountedPinLaw" (33 : Nat) ({ cls := "com/example/skope/skope/xml/Intake", name := "addInternalEntity", desc := "(Ljava/lang/String;)V" } : Jvm.MethodName)).before a0 Z = true := hw _ (List.mem_of_getElem? (i := 58) rfl)
theorem w_62 {a0 : Array Value} {Z : State} (hw : ∀ d ∈ tables_1, d.before a0 Z = true) : (Jvm.Cond.code ({ cls := "com/example/skope/skope/xml/Intake", name := "addInternalEntity", desc := "(Ljava/lang/String;)V" } : Jvm.MethodName) prog_26_method_11_code (2 : Nat) (Option.none : Option Jvm.ClassFile.FieldType)).before a0 Z = true := hw _ (List.mem_of_getElem? (i := 62) rfl)
theorem pd_15 : parseMethodDescriptor "(Ljava/lang/String;)V" = some ⟨[(.object "java/lang/String")], none⟩ := by decide +kernel
theorem w_61 {a0 : Array Value} {Z : State} (hw : ∀ d ∈ tables_1, d.before a0 Z = true) : (Jvm.Cond.selects "com/example/skope/skope/xml/Intake" ({ cls := "com/example/skope/skope/xml/Intake", name := "addInternalEntity", desc := "(Ljava/lang/String;)V" } : Jvm.MethodName) ({ cls := "com/example/skope/skope/xml/Intake", name := "addInternalEntity", desc := "(Ljava/lang/String;)V" } : Jvm.MethodName)).before a0 Z = true := hw _ (List.mem_of_getElem? (i := 61) rfl)
theorem w_59 {a0 : Array Value} {Z : State} (hw : ∀ d ∈ tables_1, d.before a0 Z = true) : (Jvm.Cond.declares ({ cls := "com/example/skope/skope/xml/Intake", name := "addInternalEntity", desc := "(Ljava/lang/String;)V" } : Jvm.MethodName)).before a0 Z = true := hw _ (List.mem_of_getElem? (i := 59) rfl)
theorem w_60 {a0 : Array Value} {Z : State} (hw : ∀ d ∈ tables_1, d.before a0 Z = true) : (Jvm.Cond.instanceMethod ({ cls := "com/example/skope/skope/xml/Intake", name := "addInternalEntity", desc := "(Ljava/lang/String;)V" } : Jvm.MethodName)).before a0 Z = true := hw _ (List.mem_of_getElem? (i := 60) rfl)
theorem w_84 {a0 : Array Value} {Z : State} (hw : ∀ d ∈ tables_1, d.before a0 Z = true) : (Jvm.Cond.methodLink "com/example/skope/skope/xml/IntakeReplacedUncountedPinLaw" (37 : Nat) ({ cls := "com/example/skope/skope/xml/IntakeReplacedUncountedPinLaw", name := "isParam", desc := "(Ljava/lang/String;)Z" } : Jvm.MethodName)).before a0 Z = true := hw _ (List.mem_of_getElem? (i := 84) rfl)
theorem w_86 {a0 : Array Value} {Z : State} (hw : ∀ d ∈ tables_1, d.before a0 Z = true) : (Jvm.Cond.code ({ cls := "com/example/skope/skope/xml/IntakeReplacedUncountedPinLaw", name := "isParam", desc := "(Ljava/lang/String;)Z" } : Jvm.MethodName) method_3_code (1 : Nat) (Option.some Jvm.ClassFile.FieldType.boolean)).before a0 Z = true := hw _ (List.mem_of_getElem? (i := 86) rfl)
theorem w_85 {a0 : Array Value} {Z : State} (hw : ∀ d ∈ tables_1, d.before a0 Z = true) : (Jvm.Cond.static ({ cls := "com/example/skope/skope/xml/IntakeReplacedUncountedPinLaw", name := "isParam", desc := "(Ljava/lang/String;)Z" } : Jvm.MethodName)).before a0 Z = true := hw _ (List.mem_of_getElem? (i := 85) rfl)
theorem w_97 {a0 : Array Value} {Z : State} (hw : ∀ d ∈ tables_1, d.before a0 Z = true) : (Jvm.Cond.methodLink "com/example/skope/skope/xml/IntakeReplacedUncountedPinLaw" (51 : Nat) ({ cls := "com/example/skope/skope/xml/Intake", name := "clear", desc := "()V" } : Jvm.MethodName)).before a0 Z = true := hw _ (List.mem_of_getElem? (i := 97) rfl)
theorem w_101 {a0 : Array Value} {Z : State} (hw : ∀ d ∈ tables_1, d.before a0 Z = true) : (Jvm.Cond.code ({ cls := "com/example/skope/skope/xml/Intake", name := "clear", desc := "()V" } : Jvm.MethodName) prog_26_method_21_code (1 : Nat) (Option.none : Option Jvm.ClassFile.FieldType)).before a0 Z = true := hw _ (List.mem_of_getElem? (i := 101) rfl)
theorem w_100 {a0 : Array Value} {Z : State} (hw : ∀ d ∈ tables_1, d.before a0 Z = true) : (Jvm.Cond.selects "com/example/skope/skope/xml/Intake" ({ cls := "com/example/skope/skope/xml/Intake", name := "clear", desc := "()V" } : Jvm.MethodName) ({ cls := "com/example/skope/skope/xml/Intake", name := "clear", desc := "()V" } : Jvm.MethodName)).before a0 Z = true := hw _ (List.mem_of_getElem? (i := 100) rfl)
theorem w_98 {a0 : Array Value} {Z : State} (hw : ∀ d ∈ tables_1, d.before a0 Z = true) : (Jvm.Cond.declares ({ cls := "com/example/skope/skope/xml/Intake", name := "clear", desc := "()V" } : Jvm.MethodName)).before a0 Z = true := hw _ (List.mem_of_getElem? (i := 98) rfl)
theorem w_99 {a0 : Array Value} {Z : State} (hw : ∀ d ∈ tables_1, d.before a0 Z = true) : (Jvm.Cond.instanceMethod ({ cls := "com/example/skope/skope/xml/Intake", name := "clear", desc := "()V" } : Jvm.MethodName)).before a0 Z = true := hw _ (List.mem_of_getElem? (i := 99) rfl)
theorem w_90 {a0 : Array Value} {Z : State} (hw : ∀ d ∈ tables_1, d.before a0 Z = true) : (Jvm.Cond.methodLink "com/example/skope/skope/xml/IntakeReplacedUncountedPinLaw" (44 : Nat) ({ cls := "com/example/skope/skope/xml/Intake", name := "addDocumentTypeDeclaration", desc := "()V" } : Jvm.MethodName)).before a0 Z = true := hw _ (List.mem_of_getElem? (i := 90) rfl)
theorem w_94 {a0 : Array Value} {Z : State} (hw : ∀ d ∈ tables_1, d.before a0 Z = true) : (Jvm.Cond.code ({ cls := "com/example/skope/skope/xml/Intake", name := "addDocumentTypeDeclaration", desc := "()V" } : Jvm.MethodName) prog_26_method_14_code (1 : Nat) (Option.none : Option Jvm.ClassFile.FieldType)).before a0 Z = true := hw _ (List.mem_of_getElem? (i := 94) rfl)
theorem w_93 {a0 : Array Value} {Z : State} (hw : ∀ d ∈ tables_1, d.before a0 Z = true) : (Jvm.Cond.selects "com/example/skope/skope/xml/Intake" ({ cls := "com/example/skope/skope/xml/Intake", name := "addDocumentTypeDeclaration", desc := "()V" } : Jvm.MethodName) ({ cls := "com/example/skope/skope/xml/Intake", name := "addDocumentTypeDeclaration", desc := "()V" } : Jvm.MethodName)).before a0 Z = true := hw _ (List.mem_of_getElem? (i := 93) rfl)
theorem w_91 {a0 : Array Value} {Z : State} (hw : ∀ d ∈ tables_1, d.before a0 Z = true) : (Jvm.Cond.declares ({ cls := "com/example/skope/skope/xml/Intake", name := "addDocumentTypeDeclaration", desc := "()V" } : Jvm.MethodName)).before a0 Z = true := hw _ (List.mem_of_getElem? (i := 91) rfl)
theorem w_92 {a0 : Array Value} {Z : State} (hw : ∀ d ∈ tables_1, d.before a0 Z = true) : (Jvm.Cond.instanceMethod ({ cls := "com/example/skope/skope/xml/Intake", name := "addDocumentTypeDeclaration", desc := "()V" } : Jvm.MethodName)).before a0 Z = true := hw _ (List.mem_of_getElem? (i := 92) rfl)
def Q0 (Z : State) (p1 : Int32) (p2 : Int32) (p3 : Int32) (gC : Int32) (gF : Value) (h0 : Heap) (n0 : Nat) (v : Option Value) (h : Heap) (L : List Loc) (ve : Vm) : Prop := v = some (.int 1) ∧ Fr n0 L
set_option maxRecDepth 65536 in
set_option maxHeartbeats 40000000 in
theorem rm0 (l : Launch) (Z : State) (a0 : Array Value) (hw : ∀ d ∈ tables_1, d.before a0 Z = true) (wsC : List Jvm.Cond) (p1 : Int32) (p2 : Int32) (p3 : Int32) (gC : Int32) (gF : Value) (h0 : Heap) (n0 : Nat) (Z0 : n0 ≤ h0.size) (OLD : Old Z n0 h0) (O2 : Sta Z Z.heap "java/lang/String" "COMPACT_STRINGS" "Z" (.int gC)) (hz : ¬ gC = (0 : Int32)) (O4 : Sta Z Z.heap "jdk/internal/util/Preconditions" "SIOOBE_FORMATTER" "Ljava/util/function/BiFunction;" gF) (rf : gF.isRef = true) (hCH : Jvm.Lit.constHeld Z "java/lang/String" 7) (hCW : Jvm.Lit.compactW.before a0 Z = true) (hCHP : Jvm.Lit.constHeld Z "com/example/skope/skope/xml/Intake" 64) :
    MetFree l x (head1 (Jvm.Cond.code x code maxLocals ret :: wsC) room_1) (fun a U => a = #[(.int p1), (.int p2), (.int p3)] ∧ Z.Warmed39 U.vm ∧ U.heap = h0 ∧ own_EOK Z h0 U.vm) (fun _ _ _ _ _ => True) (fun _ U o U' => ∃ v L, o = .returned v ∧ Q0 Z p1 p2 p3 gC gF h0 n0 v U'.heap L U'.vm ∧ ReturnedEndW U o U' L room_1.cells room_1.slots) := by
  refine MetFree.of_bodySF (plainFor_of_name pn_2) hisR ?_
  intro p e s0 m args below meth c s₁ Bd hml0 hP hK
  obtain ⟨rfl, hZ, hh, JK⟩ := hP
  have hx := Bd.exec
  have hby := Bd.bytes
  have hml : c.maxLocals = 11 := hml0
  obtain ⟨vmw, hvw⟩ : ∃ z, z = s0.vm := ⟨_, rfl⟩
  obtain ⟨s, hsE⟩ : ∃ z, z = s0.setVm vmw := ⟨_, rfl⟩
  have SI : s0.Since vmw 0 := by rw [hvw]; exact (State.WarmedH.refl s0).since 0
  have W0 : 0 ≤ h0.size := Nat.zero_le _
  have hss : s = s0 := by rw [hsE, hvw]; rfl
  rw [← hss] at hZ
  replace JK : own_EOK Z h0 vmw := by rw [hvw]; exact JK
  have hown : s.vm.findClass "com/example/skope/skope/xml/IntakeReplacedUncountedPinLaw" = some m.cls := by rw [hss]; exact findClass_of_methodNamed Bd.named
  have hnm := (name_of_methodNamed Bd.named Bd.method).1
  have X0 : Stand p l e room_1 s m #[(.int p1), (.int p2), (.int p3)] below meth c s₁ [] 0 0 := by rw [hss]; exact Stand.of_body Bd
  clear hss hvw
  skip
  have e0 : s₁.heap = h0 := by rw [← hh, Bd.state]; rfl
  have NF := Fr.nil n0
  refine WP.go ?_
  refine WP.cast (ef_0 m p1 p2 p3) ?_
  refine WP.name ?_
  intro G hG
  refine WP.st (T' := s₁) (f' := (mkF m 1 #[.val (.int p1), .val (.int p2), .val (.int p3), .unset, .unset, .unset, .unset, .unset, .unset, .unset, .unset] [(.int p2)])) (fun t k => ?_) ?_
  · refine XS.iloadN X0.here hx rfl (hb hby at_0) rfl ?_
    exact k
  subst hsE
  obtain ⟨_, _, ⟨T186, L186, k186, n186⟩, -, X186, SJ186, gr186, ⟨Lc186, hQ186, l186, y186, z186⟩, st186⟩ := callSS X0 hx (y := (⟨"com/example/skope/skope/xml/IntakeReplacedUncountedPinLaw", "name", "(I)Ljava/lang/String;"⟩ : MethodName)) hown (mvT hZ (w_0 hw)) (mvT hZ (w_1 hw)) (mvT hZ (w_2 hw)) (mvT hZ (w_3 hw)) (by decide) (own_backOfJ (J := own_EOK Z h0) (W := 0) (rm1 l Z a0 hw [] p2 gC h0 n0 Z0 OLD (O2 : Sta Z Z.heap "java/lang/String" "COMPACT_STRINGS" "Z" (.int gC)) (hz : ¬ gC = (0 : Int32)) (hCH : Jvm.Lit.constHeld Z "java/lang/String" 7) (hCW : Jvm.Lit.compactW.before a0 Z = true)) hZ (fun _ q => own_EOK.mv (s := s0.setVm vmw) JK q) (w_3 hw) (w_2 hw) (by decide) (by decide)) (g := (mkF m 1 #[.val (.int p1), .val (.int p2), .val (.int p3), .unset, .unset, .unset, .unset, .unset, .unset, .unset, .unset] [(.int p2)])) rfl (by rw [hml]; rfl) (argsL := [(.int p2)]) (rest := []) (lenOf pd_12 rfl) rfl (by show 2 * 0 + _ ≤ _; exact Nat.le_of_eq rfl) (hb hby at_1) (fun _ _ => ⟨rfl, e0, (by decide : 0 + 4 ≤ _), (by decide : 0 + 8 ≤ _)⟩)
  dsimp only [Pt.U, Pt.locs, Pt.cells, Pt.slots] at X186 l186 y186 z186 st186 hQ186 SJ186 gr186
  subst l186 y186 z186
  have SI186 := foldS SI (T := s₁) (Nat.le_trans W0 (Nat.le_of_eq (by rw [e0]))) SJ186 gr186
  have hZ186 := State.Warmed39.trans (t := s0.setVm vmw) hZ SJ186.1
  have hown186 : T186.vm.findClass "com/example/skope/skope/xml/IntakeReplacedUncountedPinLaw" = some m.cls := by rw [SJ186.1.alike.findClass]; exact hown
  obtain ⟨r_186, ta_186, kb_186, cs_186, rfl, Nq186, Kq186, szq_r_186, nE186_r_186, nF186_r_186_coder, nF186_r_186_value, nA186_ta_186, hcs_186, hcl_186, nJ186⟩ := hQ186
  replace NF := Fr.app NF Nq186
  clear Nq186
  refine WP.tr st186 ?_
  clear st186
  obtain ⟨h186, e186⟩ : ∃ h, T186.heap = h := ⟨_, rfl⟩
  clear JK
  rw [e186] at Kq186 nE186_r_186 nF186_r_186_coder nF186_r_186_value nA186_ta_186 nJ186
  replace OLD := OLD.keep Kq186 all0
  replace Z0 := Nat.le_trans Z0 Kq186.1
  replace W0 := Nat.le_trans W0 Kq186.1
  clear Kq186
  have E_r_186 := nE186_r_186
  clear nE186_r_186
  have F_r_186_coder := nF186_r_186_coder
  clear nF186_r_186_coder
  have F_r_186_value := nF186_r_186_value
  clear nF186_r_186_value
  have V_ta_186 := nA186_ta_186
  clear nA186_ta_186
  clear W0
  have W0 : T186.heap.size ≤ h186.size := Nat.le_of_eq (by rw [e186])
  clear hZ hown SI
  obtain ⟨vmw, hvw⟩ : ∃ z, z = T186.vm := ⟨_, rfl⟩
  replace hZ186 : Z.Warmed39 vmw := by rw [hvw]; exact hZ186
  replace hown186 : vmw.findClass "com/example/skope/skope/xml/IntakeReplacedUncountedPinLaw" = some m.cls := by rw [hvw]; exact hown186
  have SI := SI186
  clear SI186
  rw [← hvw] at SI
  have JK : own_EOK Z h186 vmw := by rw [hvw]; exact nJ186
  clear nJ186
  obtain ⟨s, hsE⟩ : ∃ z, z = s0.setVm vmw := ⟨_, rfl⟩
  have hX : ∃ LL, Stand p l e room_1 s m #[(.int p1), (.int p2), (.int p3)] below meth c T186 LL 4 8 ∧ Fr n0 LL := ⟨_, (by rw [hsE, hvw]; exact X186), NF⟩
  clear X186 NF
  obtain ⟨LL186, X186, NF⟩ := hX
  clear hvw
  have hZ : Z.Warmed39 s.vm := by rw [hsE]; exact hZ186
  have hown : s.vm.findClass "com/example/skope/skope/xml/IntakeReplacedUncountedPinLaw" = some m.cls := by rw [hsE]; exact hown186
  clear hZ186 hown186
  have hXN : ∃ LL, Stand p l e room_1 s m #[(.int p1), (.int p2), (.int p3)] below meth c T186 LL 4 8 ∧ Fr n0 LL := ⟨_, X186, NF⟩
  clear X186 NF
  obtain ⟨LL187, X186, NF⟩ := hXN
  show WP p.tables e below _ T186 (mkF m 4 #[.val (.int p1), .val (.int p2), .val (.int p3), .unset, .unset, .unset, .unset, .unset, .unset, .unset, .unset] [(.ref r_186)])
  refine WP.st (T' := T186) (f' := (mkF m 6 #[.val (.int p1), .val (.int p2), .val (.int p3), .val (.ref r_186), .unset, .unset, .unset, .unset, .unset, .unset, .unset] [(.int p3)])) (fun t k => ?_) ?_
  · refine XS.astoreN X186.here hx rfl (hb hby at_4) rfl rfl (l' := #[.val (.int p1), .val (.int p2), .val (.int p3), .val (.ref r_186), .unset, .unset, .unset, .unset, .unset, .unset, .unset]) rfl ?_
    show Steps p.tables e below (T186.setTop (mkF m 5 #[.val (.int p1), .val (.int p2), .val (.int p3), .val (.ref r_186), .unset, .unset, .unset, .unset, .unset, .unset, .unset] [])) t
    refine XS.iloadN X186.here hx rfl (hb hby at_5) rfl ?_
    exact k
  subst hsE
  obtain ⟨_, _, ⟨T188, L188, k188, n188⟩, -, X188, SJ188, gr188, ⟨Lc188, hQ188, l188, y188, z188⟩, st188⟩ := callSS X186 hx (y := (⟨"com/example/skope/skope/xml/IntakeReplacedUncountedPinLaw", "name", "(I)Ljava/lang/String;"⟩ : MethodName)) hown (mvT hZ (w_0 hw)) (mvT hZ (w_1 hw)) (mvT hZ (w_2 hw)) (mvT hZ (w_3 hw)) (by decide) (own_backOfJ (J := own_EOK Z h186) (W := 0) (rm1 l Z a0 hw [] p3 gC h186 n0 Z0 OLD (O2 : Sta Z Z.heap "java/lang/String" "COMPACT_STRINGS" "Z" (.int gC)) (hz : ¬ gC = (0 : Int32)) (hCH : Jvm.Lit.constHeld Z "java/lang/String" 7) (hCW : Jvm.Lit.compactW.before a0 Z = true)) hZ (fun _ q => own_EOK.mv (s := s0.setVm vmw) JK q) (w_3 hw) (w_2 hw) (by decide) (by decide)) (g := (mkF m 6 #[.val (.int p1), .val (.int p2), .val (.int p3), .val (.ref r_186), .unset, .unset, .unset, .unset, .unset, .unset, .unset] [(.int p3)])) rfl (by rw [hml]; rfl) (argsL := [(.int p3)]) (rest := []) (lenOf pd_12 rfl) rfl (by show 2 * 0 + _ ≤ _; exact Nat.le_of_eq rfl) (hb hby at_6) (fun _ _ => ⟨rfl, e186, (by decide : 4 + 4 ≤ _), (by decide : 8 + 8 ≤ _)⟩)
  dsimp only [Pt.U, Pt.locs, Pt.cells, Pt.slots] at X188 l188 y188 z188 st188 hQ188 SJ188 gr188
  subst l188 y188 z188
  have SI188 := foldS SI (T := T186) (Nat.le_trans W0 (Nat.le_of_eq (by rw [e186]))) SJ188 gr188
  have hZ188 := State.Warmed39.trans (t := s0.setVm vmw) hZ SJ188.1
  have hown188 : T188.vm.findClass "com/example/skope/skope/xml/IntakeReplacedUncountedPinLaw" = some m.cls := by rw [SJ188.1.alike.findClass]; exact hown
  obtain ⟨r_188, ta_188, kb_188, cs_188, rfl, Nq188, Kq188, szq_r_188, nE188_r_188, nF188_r_188_coder, nF188_r_188_value, nA188_ta_188, hcs_188, hcl_188, nJ188⟩ := hQ188
  replace NF := Fr.app NF Nq188
  clear Nq188
  refine WP.tr st188 ?_
  clear st188
  obtain ⟨h188, e188⟩ : ∃ h, T188.heap = h := ⟨_, rfl⟩
  clear JK
  rw [e188] at Kq188 nE188_r_188 nF188_r_188_coder nF188_r_188_value nA188_ta_188 nJ188
  have ne_r_186_r_188 : r_186 ≠ r_188 := Nat.ne_of_lt (Nat.lt_of_lt_of_le E_r_186.lt szq_r_188)
  have ne_ta_186_r_188 : ta_186 ≠ r_188 := Nat.ne_of_lt (Nat.lt_of_lt_of_le V_ta_186.lt szq_r_188)
  replace OLD := OLD.keep Kq188 all0
  replace E_r_186 := E_r_186.keep Kq188
  replace F_r_186_coder := F_r_186_coder.keep Kq188 (by exact nin0)
  replace F_r_186_value := F_r_186_value.keep Kq188 (by exact nin0)
  replace V_ta_186 := V_ta_186.keep Kq188 (by exact nin0)
  replace Z0 := Nat.le_trans Z0 Kq188.1
  replace W0 := Nat.le_trans W0 Kq188.1
  clear Kq188
  have E_r_188 := nE188_r_188
  clear nE188_r_188
  have F_r_188_coder := nF188_r_188_coder
  clear nF188_r_188_coder
  have F_r_188_value := nF188_r_188_value
  clear nF188_r_188_value
  have V_ta_188 := nA188_ta_188
  clear nA188_ta_188
  clear W0
  have W0 : T188.heap.size ≤ h188.size := Nat.le_of_eq (by rw [e188])
  clear hZ hown SI
  obtain ⟨vmw, hvw⟩ : ∃ z, z = T188.vm := ⟨_, rfl⟩
  replace hZ188 : Z.Warmed39 vmw := by rw [hvw]; exact hZ188
  replace hown188 : vmw.findClass "com/example/skope/skope/xml/IntakeReplacedUncountedPinLaw" = some m.cls := by rw [hvw]; exact hown188
  have SI := SI188
  clear SI188
  rw [← hvw] at SI
  have JK : own_EOK Z h188 vmw := by rw [hvw]; exact nJ188
  clear nJ188
  obtain ⟨s, hsE⟩ : ∃ z, z = s0.setVm vmw := ⟨_, rfl⟩
  have hX : ∃ LL, Stand p l e room_1 s m #[(.int p1), (.int p2), (.int p3)] below meth c T188 LL 8 16 ∧ Fr n0 LL := ⟨_, (by rw [hsE, hvw]; exact X188), NF⟩
  clear X188 NF
  obtain ⟨LL188, X188, NF⟩ := hX
  clear hvw
  have hZ : Z.Warmed39 s.vm := by rw [hsE]; exact hZ188
  have hown : s.vm.findClass "com/example/skope/skope/xml/IntakeReplacedUncountedPinLaw" = some m.cls := by rw [hsE]; exact hown188
  clear hZ188 hown188
  have hXN : ∃ LL, Stand p l e room_1 s m #[(.int p1), (.int p2), (.int p3)] below meth c T188 LL 8 16 ∧ Fr n0 LL := ⟨_, X188, NF⟩
  clear X188 NF
  obtain ⟨LL189, X188, NF⟩ := hXN
  show WP p.tables e below _ T188 (mkF m 9 #[.val (.int p1), .val (.int p2), .val (.int p3), .val (.ref r_186), .unset, .unset, .unset, .unset, .unset, .unset, .unset] [(.ref r_188)])
  refine WP.st (T' := T188) (f' := (mkF m 11 #[.val (.int p1), .val (.int p2), .val (.int p3), .val (.ref r_186), .val (.ref r_188), .unset, .unset, .unset, .unset, .unset, .unset] [])) (fun t k => ?_) ?_
  · refine XS.astore X188.here hx rfl (hb hby at_9) rfl rfl (l' := #[.val (.int p1), .val (.int p2), .val (.int p3), .val (.ref r_186), .val (.ref r_188), .unset, .unset, .unset, .unset, .unset, .unset]) rfl ?_
    exact k
  replace JK := own_EOK.toP JK
  obtain ⟨T190, h190, X190, e190, E190, A190, D190, -, st190⟩ := newO X188 hx hZ hown (w_37 hw) (w_38 hw) (w_39 hw) e188 (g := (mkF m 11 #[.val (.int p1), .val (.int p2), .val (.int p3), .val (.ref r_186), .val (.ref r_188), .unset, .unset, .unset, .unset, .unset, .unset] [])) rfl (hb hby at_11) (by decide) (by decide)
  obtain ⟨b190, g190⟩ : ∃ z, z = h188.size := ⟨_, rfl⟩
  rw [← g190] at A190 D190 st190
  refine WP.st st190 ?_
  clear st190
  have ne_r_186_b190 : r_186 ≠ b190 := Nat.ne_of_lt (Nat.lt_of_lt_of_le E_r_186.lt (Nat.le_of_eq g190.symm))
  have ne_ta_186_b190 : ta_186 ≠ b190 := Nat.ne_of_lt (Nat.lt_of_lt_of_le V_ta_186.lt (Nat.le_of_eq g190.symm))
  have ne_r_188_b190 : r_188 ≠ b190 := Nat.ne_of_lt (Nat.lt_of_lt_of_le E_r_188.lt (Nat.le_of_eq g190.symm))
  have ne_ta_188_b190 : ta_188 ≠ b190 := Nat.ne_of_lt (Nat.lt_of_lt_of_le V_ta_188.lt (Nat.le_of_eq g190.symm))
  have g_b190 : n0 ≤ b190 := Nat.le_trans Z0 (Nat.le_of_eq g190.symm)
  replace OLD := OLD.ext E190
  replace E_r_186 := E_r_186.ext E190
  replace F_r_186_coder := F_r_186_coder.ext E190
  replace F_r_186_value := F_r_186_value.ext E190
  replace V_ta_186 := V_ta_186.ext E190
  replace E_r_188 := E_r_188.ext E190
  replace F_r_188_coder := F_r_188_coder.ext E190
  replace F_r_188_value := F_r_188_value.ext E190
  replace V_ta_188 := V_ta_188.ext E190
  replace JK := JK.ext E190
  replace Z0 := Nat.le_trans Z0 E190.1
  replace W0 := Nat.le_trans W0 E190.1
  have E_b190 := A190
  have F_b190_longestValues : Fld Z h190 b190 "com/example/skope/skope/xml/Intake" "longestValues" "[I" .null := D190 (Or.inl (w_46 hw)) (ty := (.array .int)) (by decide)
  have F_b190_dropsNames : Fld Z h190 b190 "com/example/skope/skope/xml/Intake" "dropsNames" "Z" (.int (0 : Int32)) := D190 (Or.inl (w_48 hw)) (ty := .boolean) (by decide)
  have F_b190_internalParameterEntity : Fld Z h190 b190 "com/example/skope/skope/xml/Intake" "internalParameterEntity" "Z" (.int (0 : Int32)) := D190 (Or.inl (w_55 hw)) (ty := .boolean) (by decide)
  have F_b190_internalGeneralEntity : Fld Z h190 b190 "com/example/skope/skope/xml/Intake" "internalGeneralEntity" "Z" (.int (0 : Int32)) := D190 (Or.inl (w_57 hw)) (ty := .boolean) (by decide)
  have F_b190_attributeList : Fld Z h190 b190 "com/example/skope/skope/xml/Intake" "attributeList" "Z" (.int (0 : Int32)) := D190 (Or.inl (w_89 hw)) (ty := .boolean) (by decide)
  have F_b190_documentTypeDeclaration : Fld Z h190 b190 "com/example/skope/skope/xml/Intake" "documentTypeDeclaration" "Z" (.int (0 : Int32)) := D190 (Or.inl (w_96 hw)) (ty := .boolean) (by decide)
  have F_b190_declaringBytes : Fld Z h190 b190 "com/example/skope/skope/xml/Intake" "declaringBytes" "J" (.long (0 : Int64)) := D190 (Or.inl (w_103 hw)) (ty := .long) (by decide)
  have F_b190_bytes : Fld Z h190 b190 "com/example/skope/skope/xml/Intake" "bytes" "J" (.long (0 : Int64)) := D190 (Or.inl (w_105 hw)) (ty := .long) (by decide)
  have F_b190_stretch : Fld Z h190 b190 "com/example/skope/skope/xml/Intake" "stretch" "J" (.long (0 : Int64)) := D190 (Or.inl (w_107 hw)) (ty := .long) (by decide)
  have F_b190_started : Fld Z h190 b190 "com/example/skope/skope/xml/Intake" "started" "Z" (.int (0 : Int32)) := D190 (Or.inl (w_109 hw)) (ty := .boolean) (by decide)
  clear D190 A190
  show WP p.tables e below _ T190 (mkF m 14 #[.val (.int p1), .val (.int p2), .val (.int p3), .val (.ref r_186), .val (.ref r_188), .unset, .unset, .unset, .unset, .unset, .unset] [(.ref b190)])
  refine WP.st (T' := T190) (f' := (mkF m 15 #[.val (.int p1), .val (.int p2), .val (.int p3), .val (.ref r_186), .val (.ref r_188), .unset, .unset, .unset, .unset, .unset, .unset] [(.ref b190), (.ref b190)])) (fun t k => ?_) ?_
  · refine XS.dup X190.here hx rfl (hb hby at_14) rfl rfl ?_
    exact k
  obtain ⟨_, _, ⟨T191, L191, k191, n191⟩, -, X191, ⟨Lc191, hQ191, l191, y191, z191⟩, st191⟩ := X190.specialBack hx (y := (⟨"com/example/skope/skope/xml/Intake", "<init>", "()V"⟩ : MethodName)) rfl hown (mvT hZ (w_40 hw)) (mvT hZ (w_41 hw)) (mvT hZ (w_42 hw)) (by decide) (backOf (W := 1) (rm8 l Z a0 hw [] b190 Value.null (0 : Int32) (0 : Int32) (0 : Int32) (0 : Int32) (0 : Int32) (0 : Int64) (0 : Int64) (0 : Int64) (0 : Int32) h190 n0 Z0 E_b190 g_b190 F_b190_longestValues F_b190_dropsNames F_b190_internalParameterEntity F_b190_internalGeneralEntity F_b190_attributeList F_b190_documentTypeDeclaration F_b190_declaringBytes F_b190_bytes F_b190_stretch F_b190_started) hZ (w_42 hw) (w_39 hw) (by decide) (by decide)) (g := (mkF m 15 #[.val (.int p1), .val (.int p2), .val (.int p3), .val (.ref r_186), .val (.ref r_188), .unset, .unset, .unset, .unset, .unset, .unset] [(.ref b190), (.ref b190)])) rfl (by rw [hml]; rfl) (Steps.refl _) (a := b190) (argsL := []) (rest := [(.ref b190)]) (lenOf pd_13 rfl) rfl (by show 2 * 0 + _ ≤ _; exact Nat.le_of_eq rfl) (hb hby at_15) (fun _ _ => ⟨rfl, e190, (by decide : 9 + 1 ≤ _), (by decide : 31 + 0 ≤ _)⟩)
  dsimp only [Pt.U, Pt.locs, Pt.cells, Pt.slots] at X191 l191 y191 z191 st191 hQ191
  subst l191 y191 z191
  obtain ⟨rfl, Nq191, Kq191, nF191_b190_dropsNames, nF191_b190_internalParameterEntity, nF191_b190_internalGeneralEntity, nF191_b190_attributeList, nF191_b190_documentTypeDeclaration, nF191_b190_declaringBytes, nF191_b190_bytes, nF191_b190_stretch, nF191_b190_started⟩ := hQ191
  replace NF := Fr.app NF Nq191
  clear Nq191
  refine WP.tr st191 ?_
  clear st191
  obtain ⟨h191, e191⟩ : ∃ h, T191.heap = h := ⟨_, rfl⟩
  rw [e191] at Kq191 nF191_b190_dropsNames nF191_b190_internalParameterEntity nF191_b190_internalGeneralEntity nF191_b190_attributeList nF191_b190_documentTypeDeclaration nF191_b190_declaringBytes nF191_b190_bytes nF191_b190_stretch nF191_b190_started
  replace JK := own_POK.keep JK Kq191 E_b190 (by decide) (w_38 hw)
  replace OLD := OLD.keep Kq191 (allS g_b190 all0)
  replace E_r_186 := E_r_186.keep Kq191
  replace F_r_186_coder := F_r_186_coder.keep Kq191 (by exact ninS ne_r_186_b190 (nin0))
  replace F_r_186_value := F_r_186_value.keep Kq191 (by exact ninS ne_r_186_b190 (nin0))
  replace V_ta_186 := V_ta_186.keep Kq191 (by exact ninS ne_ta_186_b190 (nin0))
  replace E_r_188 := E_r_188.keep Kq191
  replace F_r_188_coder := F_r_188_coder.keep Kq191 (by exact ninS ne_r_188_b190 (nin0))
  replace F_r_188_value := F_r_188_value.keep Kq191 (by exact ninS ne_r_188_b190 (nin0))
  replace V_ta_188 := V_ta_188.keep Kq191 (by exact ninS ne_ta_188_b190 (nin0))
  replace E_b190 := E_b190.keep Kq191
  clear F_b190_longestValues
  clear F_b190_dropsNames
  clear F_b190_internalParameterEntity
  clear F_b190_internalGeneralEntity
  clear F_b190_attributeList
  clear F_b190_documentTypeDeclaration
  clear F_b190_declaringBytes
  clear F_b190_bytes
  clear F_b190_stretch
  clear F_b190_started
  replace Z0 := Nat.le_trans Z0 Kq191.1
  replace W0 := Nat.le_trans W0 Kq191.1
  clear Kq191
  have F_b190_dropsNames := nF191_b190_dropsNames
  clear nF191_b190_dropsNames
  have F_b190_internalParameterEntity := nF191_b190_internalParameterEntity
  clear nF191_b190_internalParameterEntity
  have F_b190_internalGeneralEntity := nF191_b190_internalGeneralEntity
  clear nF191_b190_internalGeneralEntity
  have F_b190_attributeList := nF191_b190_attributeList
  clear nF191_b190_attributeList
  have F_b190_documentTypeDeclaration := nF191_b190_documentTypeDeclaration
  clear nF191_b190_documentTypeDeclaration
  have F_b190_declaringBytes := nF191_b190_declaringBytes
  clear nF191_b190_declaringBytes
  have F_b190_bytes := nF191_b190_bytes
  clear nF191_b190_bytes
  have F_b190_stretch := nF191_b190_stretch
  clear nF191_b190_stretch
  have F_b190_started := nF191_b190_started
  clear nF191_b190_started
  have hXN : ∃ LL, Stand p l e room_1 s m #[(.int p1), (.int p2), (.int p3)] below meth c T191 LL 10 31 ∧ Fr n0 LL := ⟨_, X191, NF⟩
  clear X191 NF
  obtain ⟨LL192, X191, NF⟩ := hXN
  show WP p.tables e below _ T191 (mkF m 18 #[.val (.int p1), .val (.int p2), .val (.int p3), .val (.ref r_186), .val (.ref r_188), .unset, .unset, .unset, .unset, .unset, .unset] [(.ref b190)])
  refine WP.st (T' := T191) (f' := (mkF m 29 #[.val (.int p1), .val (.int p2), .val (.int p3), .val (.ref r_186), .val (.ref r_188), .val (.ref b190), .val (.int (0 : Int32)), .val (.int (0 : Int32)), .val (.int (0 : Int32)), .unset, .unset] [])) (fun t k => ?_) ?_
  · refine XS.astore X191.here hx rfl (hb hby at_18) rfl rfl (l' := #[.val (.int p1), .val (.int p2), .val (.int p3), .val (.ref r_186), .val (.ref r_188), .val (.ref b190), .unset, .unset, .unset, .unset, .unset]) rfl ?_
    show Steps p.tables e below (T191.setTop (mkF m 20 #[.val (.int p1), .val (.int p2), .val (.int p3), .val (.ref r_186), .val (.ref r_188), .val (.ref b190), .unset, .unset, .unset, .unset, .unset] [])) t
    refine XS.iconst X191.here hx rfl (hb hby at_20) ?_
    show Steps p.tables e below (T191.setTop (mkF m 21 #[.val (.int p1), .val (.int p2), .val (.int p3), .val (.ref r_186), .val (.ref r_188), .val (.ref b190), .unset, .unset, .unset, .unset, .unset] [(.int (0 : Int32))])) t
    refine XS.istore X191.here hx rfl (hb hby at_21) rfl (l' := #[.val (.int p1), .val (.int p2), .val (.int p3), .val (.ref r_186), .val (.ref r_188), .val (.ref b190), .val (.int (0 : Int32)), .unset, .unset, .unset, .unset]) rfl ?_
    show Steps p.tables e below (T191.setTop (mkF m 23 #[.val (.int p1), .val (.int p2), .val (.int p3), .val (.ref r_186), .val (.ref r_188), .val (.ref b190), .val (.int (0 : Int32)), .unset, .unset, .unset, .unset] [])) t
    refine XS.iconst X191.here hx rfl (hb hby at_23) ?_
    show Steps p.tables e below (T191.setTop (mkF m 24 #[.val (.int p1), .val (.int p2), .val (.int p3), .val (.ref r_186), .val (.ref r_188), .val (.ref b190), .val (.int (0 : Int32)), .unset, .unset, .unset, .unset] [(.int (0 : Int32))])) t
    refine XS.istore X191.here hx rfl (hb hby at_24) rfl (l' := #[.val (.int p1), .val (.int p2), .val (.int p3), .val (.ref r_186), .val (.ref r_188), .val (.ref b190), .val (.int (0 : Int32)), .val (.int (0 : Int32)), .unset, .unset, .unset]) rfl ?_
    show Steps p.tables e below (T191.setTop (mkF m 26 #[.val (.int p1), .val (.int p2), .val (.int p3), .val (.ref r_186), .val (.ref r_188), .val (.ref b190), .val (.int (0 : Int32)), .val (.int (0 : Int32)), .unset, .unset, .unset] [])) t
    refine XS.iconst X191.here hx rfl (hb hby at_26) ?_
    show Steps p.tables e below (T191.setTop (mkF m 27 #[.val (.int p1), .val (.int p2), .val (.int p3), .val (.ref r_186), .val (.ref r_188), .val (.ref b190), .val (.int (0 : Int32)), .val (.int (0 : Int32)), .unset, .unset, .unset] [(.int (0 : Int32))])) t
    refine XS.istore X191.here hx rfl (hb hby at_27) rfl (l' := #[.val (.int p1), .val (.int p2), .val (.int p3), .val (.ref r_186), .val (.ref r_188), .val (.ref b190), .val (.int (0 : Int32)), .val (.int (0 : Int32)), .val (.int (0 : Int32)), .unset, .unset]) rfl ?_
    exact k
  have J193 : ∀ (s : State) (vmw : Vm) (kw : Nat) (Tj193 : State) (Lj193 : List Loc) (hj193 : Heap) (pv57 : Int32) (gv57 : Int32) (lv57 : Int32) (tv57 : Int32) (db57 : Int64), s = s0.setVm vmw → s0.Since vmw kw → kw ≤ hj193.size → Z.Warmed39 s.vm → s.vm.findClass "com/example/skope/skope/xml/IntakeReplacedUncountedPinLaw" = some m.cls → Stand p l e room_1 s m #[(.int p1), (.int p2), (.int p3)] below meth c Tj193 Lj193 12 39 → Tj193.heap = hj193 → Fr n0 Lj193 → n0 ≤ hj193.size → Old Z n0 hj193 → Exa Z hj193 r_186 "java/lang/String" → Fld Z hj193 r_186 "java/lang/String" "coder" "B" (.int (0 : Int32)) → Fld Z hj193 r_186 "java/lang/String" "value" "[B" (.ref ta_186) → Arv Z hj193 ta_186 kb_186 .byte (Int32.ofNat cs_186.length) ((cs_186.map (fun c => c.toInt8.toInt32)).map Value.int) (.int (0 : Int32)) → Exa Z hj193 r_188 "java/lang/String" → Fld Z hj193 r_188 "java/lang/String" "coder" "B" (.int (0 : Int32)) → Fld Z hj193 r_188 "java/lang/String" "value" "[B" (.ref ta_188) → Arv Z hj193 ta_188 kb_188 .byte (Int32.ofNat cs_188.length) ((cs_188.map (fun c => c.toInt8.toInt32)).map Value.int) (.int (0 : Int32)) → own_POK Z hj193 vmw → Exa Z hj193 b190 "com/example/skope/skope/xml/Intake" → Fld Z hj193 b190 "com/example/skope/skope/xml/Intake" "internalParameterEntity" "Z" (.int pv57) → Fld Z hj193 b190 "com/example/skope/skope/xml/Intake" "internalGeneralEntity" "Z" (.int gv57) → Fld Z hj193 b190 "com/example/skope/skope/xml/Intake" "attributeList" "Z" (.int lv57) → Fld Z hj193 b190 "com/example/skope/skope/xml/Intake" "documentTypeDeclaration" "Z" (.int tv57) → Fld Z hj193 b190 "com/example/skope/skope/xml/Intake" "declaringBytes" "J" (.long db57) → Fld Z hj193 b190 "com/example/skope/skope/xml/Intake" "bytes" "J" (.long (0 : Int64)) → Fld Z hj193 b190 "com/example/skope/skope/xml/Intake" "stretch" "J" (.long (0 : Int64)) → Fld Z hj193 b190 "com/example/skope/skope/xml/Intake" "started" "Z" (.int (0 : Int32)) → WP p.tables e below G Tj193 (mkF m 57 #[.val (.int p1), .val (.int p2), .val (.int p3), .val (.ref r_186), .val (.ref r_188), .val (.ref b190), .val (.int pv57), .val (.int gv57), .val (.int lv57), .unset, .unset] []) := by
    clear OLD
    clear E_r_186
    clear F_r_186_coder
    clear F_r_186_value
    clear V_ta_186
    clear E_r_188
    clear F_r_188_coder
    clear F_r_188_value
    clear V_ta_188
    clear JK
    clear E_b190
    clear F_b190_dropsNames
    clear F_b190_internalParameterEntity
    clear F_b190_internalGeneralEntity
    clear F_b190_attributeList
    clear F_b190_documentTypeDeclaration
    clear F_b190_declaringBytes
    clear F_b190_bytes
    clear F_b190_stretch
    clear F_b190_started
    clear Z0 NF hsE SI W0 hZ hown
    intro s vmw kw Tj193 Lj193 hj193 pv57 gv57 lv57 tv57 db57 hsE SI W0 hZ hown X193 ej193 NF Z0 OLD E_r_186 F_r_186_coder F_r_186_value V_ta_186 E_r_188 F_r_188_coder F_r_188_value V_ta_188 JK E_b190 F_b190_internalParameterEntity F_b190_internalGeneralEntity F_b190_attributeList F_b190_documentTypeDeclaration F_b190_declaringBytes F_b190_bytes F_b190_stretch F_b190_started
    have J194 : ∀ (s : State) (vmw : Vm) (kw : Nat) (Tj194 : State) (Lj194 : List Loc) (hj194 : Heap) (pv71 : Int32) (gv71 : Int32) (lv71 : Int32) (tv71 : Int32) (db71 : Int64), s = s0.setVm vmw → s0.Since vmw kw → kw ≤ hj194.size → Z.Warmed39 s.vm → s.vm.findClass "com/example/skope/skope/xml/IntakeReplacedUncountedPinLaw" = some m.cls → Stand p l e room_1 s m #[(.int p1), (.int p2), (.int p3)] below meth c Tj194 Lj194 12 39 → Tj194.heap = hj194 → Fr n0 Lj194 → n0 ≤ hj194.size → Old Z n0 hj194 → Exa Z hj194 r_186 "java/lang/String" → Fld Z hj194 r_186 "java/lang/String" "coder" "B" (.int (0 : Int32)) → Fld Z hj194 r_186 "java/lang/String" "value" "[B" (.ref ta_186) → Arv Z hj194 ta_186 kb_186 .byte (Int32.ofNat cs_186.length) ((cs_186.map (fun c => c.toInt8.toInt32)).map Value.int) (.int (0 : Int32)) → Exa Z hj194 r_188 "java/lang/String" → Fld Z hj194 r_188 "java/lang/String" "coder" "B" (.int (0 : Int32)) → Fld Z hj194 r_188 "java/lang/String" "value" "[B" (.ref ta_188) → Arv Z hj194 ta_188 kb_188 .byte (Int32.ofNat cs_188.length) ((cs_188.map (fun c => c.toInt8.toInt32)).map Value.int) (.int (0 : Int32)) → own_POK Z hj194 vmw → Exa Z hj194 b190 "com/example/skope/skope/xml/Intake" → Fld Z hj194 b190 "com/example/skope/skope/xml/Intake" "internalParameterEntity" "Z" (.int pv71) → Fld Z hj194 b190 "com/example/skope/skope/xml/Intake" "internalGeneralEntity" "Z" (.int gv71) → Fld Z hj194 b190 "com/example/skope/skope/xml/Intake" "attributeList" "Z" (.int lv71) → Fld Z hj194 b190 "com/example/skope/skope/xml/Intake" "documentTypeDeclaration" "Z" (.int tv71) → Fld Z hj194 b190 "com/example/skope/skope/xml/Intake" "declaringBytes" "J" (.long db71) → Fld Z hj194 b190 "com/example/skope/skope/xml/Intake" "bytes" "J" (.long (0 : Int64)) → Fld Z hj194 b190 "com/example/skope/skope/xml/Intake" "stretch" "J" (.long (0 : Int64)) → Fld Z hj194 b190 "com/example/skope/skope/xml/Intake" "started" "Z" (.int (0 : Int32)) → WP p.tables e below G Tj194 (mkF m 71 #[.val (.int p1), .val (.int p2), .val (.int p3), .val (.ref r_186), .val (.ref r_188), .val (.ref b190), .val (.int pv71), .val (.int gv71), .val (.int lv71), .unset, .unset] []) := by
      clear OLD
      clear E_r_186
      clear F_r_186_coder
      clear F_r_186_value
      clear V_ta_186
      clear E_r_188
      clear F_r_188_coder
      clear F_r_188_value
      clear V_ta_188
      clear JK
      clear E_b190
      clear F_b190_internalParameterEntity
      clear F_b190_internalGeneralEntity
      clear F_b190_attributeList
      clear F_b190_documentTypeDeclaration
      clear F_b190_declaringBytes
      clear F_b190_bytes
      clear F_b190_stretch
      clear F_b190_started
      clear Z0 NF hsE SI W0 hZ hown
      intro s vmw kw Tj194 Lj194 hj194 pv71 gv71 lv71 tv71 db71 hsE SI W0 hZ hown X194 ej194 NF Z0 OLD E_r_186 F_r_186_coder F_r_186_value V_ta_186 E_r_188 F_r_188_coder F_r_188_value V_ta_188 JK E_b190 F_b190_internalParameterEntity F_b190_internalGeneralEntity F_b190_attributeList F_b190_documentTypeDeclaration F_b190_declaringBytes F_b190_bytes F_b190_stretch F_b190_started
      have J195 : ∀ (s : State) (vmw : Vm) (kw : Nat) (Tj195 : State) (Lj195 : List Loc) (hj195 : Heap) (pv83 : Int32) (gv83 : Int32) (lv83 : Int32) (tv83 : Int32) (db83 : Int64), s = s0.setVm vmw → s0.Since vmw kw → kw ≤ hj195.size → Z.Warmed39 s.vm → s.vm.findClass "com/example/skope/skope/xml/IntakeReplacedUncountedPinLaw" = some m.cls → Stand p l e room_1 s m #[(.int p1), (.int p2), (.int p3)] below meth c Tj195 Lj195 12 39 → Tj195.heap = hj195 → Fr n0 Lj195 → n0 ≤ hj195.size → Old Z n0 hj195 → Exa Z hj195 r_186 "java/lang/String" → Fld Z hj195 r_186 "java/lang/String" "coder" "B" (.int (0 : Int32)) → Fld Z hj195 r_186 "java/lang/String" "value" "[B" (.ref ta_186) → Arv Z hj195 ta_186 kb_186 .byte (Int32.ofNat cs_186.length) ((cs_186.map (fun c => c.toInt8.toInt32)).map Value.int) (.int (0 : Int32)) → Exa Z hj195 r_188 "java/lang/String" → Fld Z hj195 r_188 "java/lang/String" "coder" "B" (.int (0 : Int32)) → Fld Z hj195 r_188 "java/lang/String" "value" "[B" (.ref ta_188) → Arv Z hj195 ta_188 kb_188 .byte (Int32.ofNat cs_188.length) ((cs_188.map (fun c => c.toInt8.toInt32)).map Value.int) (.int (0 : Int32)) → own_POK Z hj195 vmw → Exa Z hj195 b190 "com/example/skope/skope/xml/Intake" → Fld Z hj195 b190 "com/example/skope/skope/xml/Intake" "internalParameterEntity" "Z" (.int pv83) → Fld Z hj195 b190 "com/example/skope/skope/xml/Intake" "internalGeneralEntity" "Z" (.int gv83) → Fld Z hj195 b190 "com/example/skope/skope/xml/Intake" "attributeList" "Z" (.int lv83) → Fld Z hj195 b190 "com/example/skope/skope/xml/Intake" "documentTypeDeclaration" "Z" (.int tv83) → Fld Z hj195 b190 "com/example/skope/skope/xml/Intake" "declaringBytes" "J" (.long db83) → Fld Z hj195 b190 "com/example/skope/skope/xml/Intake" "bytes" "J" (.long (0 : Int64)) → Fld Z hj195 b190 "com/example/skope/skope/xml/Intake" "stretch" "J" (.long (0 : Int64)) → Fld Z hj195 b190 "com/example/skope/skope/xml/Intake" "started" "Z" (.int (0 : Int32)) → WP p.tables e below G Tj195 (mkF m 83 #[.val (.int p1), .val (.int p2), .val (.int p3), .val (.ref r_186), .val (.ref r_188), .val (.ref b190), .val (.int pv83), .val (.int gv83), .val (.int lv83), .unset, .unset] []) := by
        clear OLD
        clear E_r_186
        clear F_r_186_coder
        clear F_r_186_value
        clear V_ta_186
        clear E_r_188
        clear F_r_188_coder
        clear F_r_188_value
        clear V_ta_188
        clear JK
        clear E_b190
        clear F_b190_internalParameterEntity
        clear F_b190_internalGeneralEntity
        clear F_b190_attributeList
        clear F_b190_documentTypeDeclaration
        clear F_b190_declaringBytes
        clear F_b190_bytes
        clear F_b190_stretch
        clear F_b190_started
        clear Z0 NF hsE SI W0 hZ hown
        intro s vmw kw Tj195 Lj195 hj195 pv83 gv83 lv83 tv83 db83 hsE SI W0 hZ hown X195 ej195 NF Z0 OLD E_r_186 F_r_186_coder F_r_186_value V_ta_186 E_r_188 F_r_188_coder F_r_188_value V_ta_188 JK E_b190 F_b190_internalParameterEntity F_b190_internalGeneralEntity F_b190_attributeList F_b190_documentTypeDeclaration F_b190_declaringBytes F_b190_bytes F_b190_stretch F_b190_started
        have J196 : ∀ (Tj196 : State) (Lj196 : List Loc)  , Stand p l e room_1 s m #[(.int p1), (.int p2), (.int p3)] below meth c Tj196 Lj196 12 39 → Tj196.heap = hj195 → Fr n0 Lj196 → WP p.tables e below G Tj196 (mkF m 118 #[.val (.int p1), .val (.int p2), .val (.int p3), .val (.ref r_186), .val (.ref r_188), .val (.ref b190), .val (.int pv83), .val (.int gv83), .val (.int lv83), .val (.int (1 : Int32)), .unset] []) := by
          clear NF
          intro Tj196 Lj196   X196 ej196 NF
          have J197 : ∀ (s : State) (vmw : Vm) (kw : Nat) (Tj197 : State) (Lj197 : List Loc) (hj197 : Heap) (pv138 : Int32) (gv138 : Int32) (lv138 : Int32) (tv138 : Int32) (db138 : Int64), s = s0.setVm vmw → s0.Since vmw kw → kw ≤ hj197.size → Z.Warmed39 s.vm → s.vm.findClass "com/example/skope/skope/xml/IntakeReplacedUncountedPinLaw" = some m.cls → Stand p l e room_1 s m #[(.int p1), (.int p2), (.int p3)] below meth c Tj197 Lj197 12 39 → Tj197.heap = hj197 → Fr n0 Lj197 → n0 ≤ hj197.size → Old Z n0 hj197 → Exa Z hj197 r_186 "java/lang/String" → Fld Z hj197 r_186 "java/lang/String" "coder" "B" (.int (0 : Int32)) → Fld Z hj197 r_186 "java/lang/String" "value" "[B" (.ref ta_186) → Arv Z hj197 ta_186 kb_186 .byte (Int32.ofNat cs_186.length) ((cs_186.map (fun c => c.toInt8.toInt32)).map Value.int) (.int (0 : Int32)) → Exa Z hj197 r_188 "java/lang/String" → Fld Z hj197 r_188 "java/lang/String" "coder" "B" (.int (0 : Int32)) → Fld Z hj197 r_188 "java/lang/String" "value" "[B" (.ref ta_188) → Arv Z hj197 ta_188 kb_188 .byte (Int32.ofNat cs_188.length) ((cs_188.map (fun c => c.toInt8.toInt32)).map Value.int) (.int (0 : Int32)) → own_POK Z hj197 vmw → Exa Z hj197 b190 "com/example/skope/skope/xml/Intake" → Fld Z hj197 b190 "com/example/skope/skope/xml/Intake" "internalParameterEntity" "Z" (.int pv138) → Fld Z hj197 b190 "com/example/skope/skope/xml/Intake" "internalGeneralEntity" "Z" (.int gv138) → Fld Z hj197 b190 "com/example/skope/skope/xml/Intake" "attributeList" "Z" (.int lv138) → Fld Z hj197 b190 "com/example/skope/skope/xml/Intake" "documentTypeDeclaration" "Z" (.int tv138) → Fld Z hj197 b190 "com/example/skope/skope/xml/Intake" "declaringBytes" "J" (.long db138) → Fld Z hj197 b190 "com/example/skope/skope/xml/Intake" "bytes" "J" (.long (0 : Int64)) → Fld Z hj197 b190 "com/example/skope/skope/xml/Intake" "stretch" "J" (.long (0 : Int64)) → Fld Z hj197 b190 "com/example/skope/skope/xml/Intake" "started" "Z" (.int (0 : Int32)) → WP p.tables e below G Tj197 (mkF m 138 #[.val (.int p1), .val (.int p2), .val (.int p3), .val (.ref r_186), .val (.ref r_188), .val (.ref b190), .val (.int pv138), .val (.int gv138), .val (.int lv138), .val (.int (1 : Int32)), .unset] []) := by
            clear OLD
            clear E_r_186
            clear F_r_186_coder
            clear F_r_186_value
            clear V_ta_186
            clear E_r_188
            clear F_r_188_coder
            clear F_r_188_value
            clear V_ta_188
            clear JK
            clear E_b190
            clear F_b190_internalParameterEntity
            clear F_b190_internalGeneralEntity
            clear F_b190_attributeList
            clear F_b190_documentTypeDeclaration
            clear F_b190_declaringBytes
            clear F_b190_bytes
            clear F_b190_stretch
            clear F_b190_started
            clear Z0 NF hsE SI W0 hZ hown
            intro s vmw kw Tj197 Lj197 hj197 pv138 gv138 lv138 tv138 db138 hsE SI W0 hZ hown X197 ej197 NF Z0 OLD E_r_186 F_r_186_coder F_r_186_value V_ta_186 E_r_188 F_r_188_coder F_r_188_value V_ta_188 JK E_b190 F_b190_internalParameterEntity F_b190_internalGeneralEntity F_b190_attributeList F_b190_documentTypeDeclaration F_b190_declaringBytes F_b190_bytes F_b190_stretch F_b190_started
            have J198 : ∀ (s : State) (vmw : Vm) (kw : Nat) (Tj198 : State) (Lj198 : List Loc) (hj198 : Heap) (pv169 : Int32) (gv169 : Int32) (lv169 : Int32) (tv169 : Int32) (db169 : Int64), s = s0.setVm vmw → s0.Since vmw kw → kw ≤ hj198.size → Z.Warmed39 s.vm → s.vm.findClass "com/example/skope/skope/xml/IntakeReplacedUncountedPinLaw" = some m.cls → Stand p l e room_1 s m #[(.int p1), (.int p2), (.int p3)] below meth c Tj198 Lj198 14 47 → Tj198.heap = hj198 → Fr n0 Lj198 → n0 ≤ hj198.size → Old Z n0 hj198 → Exa Z hj198 r_186 "java/lang/String" → Fld Z hj198 r_186 "java/lang/String" "coder" "B" (.int (0 : Int32)) → Fld Z hj198 r_186 "java/lang/String" "value" "[B" (.ref ta_186) → Arv Z hj198 ta_186 kb_186 .byte (Int32.ofNat cs_186.length) ((cs_186.map (fun c => c.toInt8.toInt32)).map Value.int) (.int (0 : Int32)) → Exa Z hj198 r_188 "java/lang/String" → Fld Z hj198 r_188 "java/lang/String" "coder" "B" (.int (0 : Int32)) → Fld Z hj198 r_188 "java/lang/String" "value" "[B" (.ref ta_188) → Arv Z hj198 ta_188 kb_188 .byte (Int32.ofNat cs_188.length) ((cs_188.map (fun c => c.toInt8.toInt32)).map Value.int) (.int (0 : Int32)) → own_POK Z hj198 vmw → Exa Z hj198 b190 "com/example/skope/skope/xml/Intake" → Fld Z hj198 b190 "com/example/skope/skope/xml/Intake" "internalParameterEntity" "Z" (.int pv169) → Fld Z hj198 b190 "com/example/skope/skope/xml/Intake" "internalGeneralEntity" "Z" (.int gv169) → Fld Z hj198 b190 "com/example/skope/skope/xml/Intake" "attributeList" "Z" (.int lv169) → Fld Z hj198 b190 "com/example/skope/skope/xml/Intake" "documentTypeDeclaration" "Z" (.int tv169) → Fld Z hj198 b190 "com/example/skope/skope/xml/Intake" "declaringBytes" "J" (.long db169) → Fld Z hj198 b190 "com/example/skope/skope/xml/Intake" "bytes" "J" (.long (0 : Int64)) → Fld Z hj198 b190 "com/example/skope/skope/xml/Intake" "stretch" "J" (.long (0 : Int64)) → Fld Z hj198 b190 "com/example/skope/skope/xml/Intake" "started" "Z" (.int (0 : Int32)) → WP p.tables e below G Tj198 (mkF m 169 #[.val (.int p1), .val (.int p2), .val (.int p3), .val (.ref r_186), .val (.ref r_188), .val (.ref b190), .val (.int pv169), .val (.int gv169), .val (.int lv169), .val (.int (1 : Int32)), .unset] []) := by
              clear OLD
              clear E_r_186
              clear F_r_186_coder
              clear F_r_186_value
              clear V_ta_186
              clear E_r_188
              clear F_r_188_coder
              clear F_r_188_value
              clear V_ta_188
              clear JK
              clear E_b190
              clear F_b190_internalParameterEntity
              clear F_b190_internalGeneralEntity
              clear F_b190_attributeList
              clear F_b190_documentTypeDeclaration
              clear F_b190_declaringBytes
              clear F_b190_bytes
              clear F_b190_stretch
              clear F_b190_started
              clear Z0 NF hsE SI W0 hZ hown
              intro s vmw kw Tj198 Lj198 hj198 pv169 gv169 lv169 tv169 db169 hsE SI W0 hZ hown X198 ej198 NF Z0 OLD E_r_186 F_r_186_coder F_r_186_value V_ta_186 E_r_188 F_r_188_coder F_r_188_value V_ta_188 JK E_b190 F_b190_internalParameterEntity F_b190_internalGeneralEntity F_b190_attributeList F_b190_documentTypeDeclaration F_b190_declaringBytes F_b190_bytes F_b190_stretch F_b190_started
              have J199 : ∀ (s : State) (vmw : Vm) (kw : Nat) (Tj199 : State) (Lj199 : List Loc) (hj199 : Heap) (pv184 : Int32) (gv184 : Int32) (lv184 : Int32) (tv184 : Int32) (db184 : Int64), s = s0.setVm vmw → s0.Since vmw kw → kw ≤ hj199.size → Z.Warmed39 s.vm → s.vm.findClass "com/example/skope/skope/xml/IntakeReplacedUncountedPinLaw" = some m.cls → Stand p l e room_1 s m #[(.int p1), (.int p2), (.int p3)] below meth c Tj199 Lj199 14 47 → Tj199.heap = hj199 → Fr n0 Lj199 → n0 ≤ hj199.size → Old Z n0 hj199 → Exa Z hj199 r_186 "java/lang/String" → Fld Z hj199 r_186 "java/lang/String" "coder" "B" (.int (0 : Int32)) → Fld Z hj199 r_186 "java/lang/String" "value" "[B" (.ref ta_186) → Arv Z hj199 ta_186 kb_186 .byte (Int32.ofNat cs_186.length) ((cs_186.map (fun c => c.toInt8.toInt32)).map Value.int) (.int (0 : Int32)) → Exa Z hj199 r_188 "java/lang/String" → Fld Z hj199 r_188 "java/lang/String" "coder" "B" (.int (0 : Int32)) → Fld Z hj199 r_188 "java/lang/String" "value" "[B" (.ref ta_188) → Arv Z hj199 ta_188 kb_188 .byte (Int32.ofNat cs_188.length) ((cs_188.map (fun c => c.toInt8.toInt32)).map Value.int) (.int (0 : Int32)) → own_POK Z hj199 vmw → Exa Z hj199 b190 "com/example/skope/skope/xml/Intake" → Fld Z hj199 b190 "com/example/skope/skope/xml/Intake" "internalParameterEntity" "Z" (.int pv184) → Fld Z hj199 b190 "com/example/skope/skope/xml/Intake" "internalGeneralEntity" "Z" (.int gv184) → Fld Z hj199 b190 "com/example/skope/skope/xml/Intake" "attributeList" "Z" (.int lv184) → Fld Z hj199 b190 "com/example/skope/skope/xml/Intake" "documentTypeDeclaration" "Z" (.int tv184) → Fld Z hj199 b190 "com/example/skope/skope/xml/Intake" "declaringBytes" "J" (.long db184) → Fld Z hj199 b190 "com/example/skope/skope/xml/Intake" "bytes" "J" (.long (0 : Int64)) → Fld Z hj199 b190 "com/example/skope/skope/xml/Intake" "stretch" "J" (.long (0 : Int64)) → Fld Z hj199 b190 "com/example/skope/skope/xml/Intake" "started" "Z" (.int (0 : Int32)) → WP p.tables e below G Tj199 (mkF m 184 #[.val (.int p1), .val (.int p2), .val (.int p3), .val (.ref r_186), .val (.ref r_188), .val (.ref b190), .val (.int pv184), .val (.int gv184), .val (.int lv184), .val (.int (1 : Int32)), .unset] []) := by
                clear OLD
                clear E_r_186
                clear F_r_186_coder
                clear F_r_186_value
                clear V_ta_186
                clear E_r_188
                clear F_r_188_coder
                clear F_r_188_value
                clear V_ta_188
                clear JK
                clear E_b190
                clear F_b190_internalParameterEntity
                clear F_b190_internalGeneralEntity
                clear F_b190_attributeList
                clear F_b190_documentTypeDeclaration
                clear F_b190_declaringBytes
                clear F_b190_bytes
                clear F_b190_stretch
                clear F_b190_started
                clear Z0 NF hsE SI W0 hZ hown
                intro s vmw kw Tj199 Lj199 hj199 pv184 gv184 lv184 tv184 db184 hsE SI W0 hZ hown X199 ej199 NF Z0 OLD E_r_186 F_r_186_coder F_r_186_value V_ta_186 E_r_188 F_r_188_coder F_r_188_value V_ta_188 JK E_b190 F_b190_internalParameterEntity F_b190_internalGeneralEntity F_b190_attributeList F_b190_documentTypeDeclaration F_b190_declaringBytes F_b190_bytes F_b190_stretch F_b190_started
                have J200 : ∀ (Tj200 : State) (Lj200 : List Loc)  , Stand p l e room_1 s m #[(.int p1), (.int p2), (.int p3)] below meth c Tj200 Lj200 14 47 → Tj200.heap = hj199 → Fr n0 Lj200 → WP p.tables e below G Tj200 (mkF m 219 #[.val (.int p1), .val (.int p2), .val (.int p3), .val (.ref r_186), .val (.ref r_188), .val (.ref b190), .val (.int pv184), .val (.int gv184), .val (.int lv184), .val (.int (1 : Int32)), .val (.int (1 : Int32))] []) := by
                  clear NF
                  intro Tj200 Lj200   X200 ej200 NF
                  refine WP.st (T' := Tj200) (f' := (mkF m 234 #[.val (.int p1), .val (.int p2), .val (.int p3), .val (.ref r_186), .val (.ref r_188), .val (.ref b190), .val (.int pv184), .val (.int gv184), .val (.int lv184), .val (.int (1 : Int32)), .val (.int (1 : Int32))] [(.int (1 : Int32))])) (fun t k => ?_) ?_
                  · refine XS.iload X200.here hx rfl (hb hby at_219) rfl ?_
                    show Steps p.tables e below (Tj200.setTop (mkF m 221 #[.val (.int p1), .val (.int p2), .val (.int p3), .val (.ref r_186), .val (.ref r_188), .val (.ref b190), .val (.int pv184), .val (.int gv184), .val (.int lv184), .val (.int (1 : Int32)), .val (.int (1 : Int32))] [(.int (1 : Int32))])) t
                    refine XS.ifNo X200.here hx rfl (hb hby at_221) rfl ((if0 _ _).trans (feq (by decide : ¬ ((1 : Int32) = (0 : Int32)))).1) ?_
                    show Steps p.tables e below (Tj200.setTop (mkF m 224 #[.val (.int p1), .val (.int p2), .val (.int p3), .val (.ref r_186), .val (.ref r_188), .val (.ref b190), .val (.int pv184), .val (.int gv184), .val (.int lv184), .val (.int (1 : Int32)), .val (.int (1 : Int32))] [])) t
                    refine XS.iload X200.here hx rfl (hb hby at_224) rfl ?_
                    show Steps p.tables e below (Tj200.setTop (mkF m 226 #[.val (.int p1), .val (.int p2), .val (.int p3), .val (.ref r_186), .val (.ref r_188), .val (.ref b190), .val (.int pv184), .val (.int gv184), .val (.int lv184), .val (.int (1 : Int32)), .val (.int (1 : Int32))] [(.int (1 : Int32))])) t
                    refine XS.ifNo X200.here hx rfl (hb hby at_226) rfl ((if0 _ _).trans (feq (by decide : ¬ ((1 : Int32) = (0 : Int32)))).1) ?_
                    show Steps p.tables e below (Tj200.setTop (mkF m 229 #[.val (.int p1), .val (.int p2), .val (.int p3), .val (.ref r_186), .val (.ref r_188), .val (.ref b190), .val (.int pv184), .val (.int gv184), .val (.int lv184), .val (.int (1 : Int32)), .val (.int (1 : Int32))] [])) t
                    refine XS.iconst X200.here hx rfl (hb hby at_229) ?_
                    show Steps p.tables e below (Tj200.setTop (mkF m 230 #[.val (.int p1), .val (.int p2), .val (.int p3), .val (.ref r_186), .val (.ref r_188), .val (.ref b190), .val (.int pv184), .val (.int gv184), .val (.int lv184), .val (.int (1 : Int32)), .val (.int (1 : Int32))] [(.int (1 : Int32))])) t
                    refine XS.goto X200.here hx rfl (pc0 := 230) (pc' := 234) rfl (hb hby at_230) (by decide) (by decide) ?_
                    exact k
                  subst hG
                  subst hsE
                  obtain ⟨fs, hr, hrun, hended, hEW⟩ := X200.leaveW SI (Nat.le_trans W0 (Nat.le_of_eq (by rw [ej200]))) (v := some (.int (1 : Int32))) (fun h => by rw [Bd.returns] at h; cases h)
                  refine WP.fin ⟨_, _, ?_, hrun, hended, _, _, rfl, ?_, hEW.1, hEW.2.1, hEW.2.2.1, hEW.2.2.2.mono (by decide) (by decide)⟩
                  · exact retN X200 hx (t := .boolean) Bd.returns (by simp) (hb hby at_234) hr
                  · show Q0 Z p1 p2 p3 gC gF h0 n0 _ Tj200.heap _ Tj200.vm
                    rw [ej200]
                    exact ⟨rfl, NF⟩
                refine WP.st (T' := Tj199) (f' := (mkF m 186 #[.val (.int p1), .val (.int p2), .val (.int p3), .val (.ref r_186), .val (.ref r_188), .val (.ref b190), .val (.int pv184), .val (.int gv184), .val (.int lv184), .val (.int (1 : Int32)), .unset] [(.ref b190)])) (fun t k => ?_) ?_
                · refine XS.aload X199.here hx rfl (hb hby at_184) rfl rfl ?_
                  exact k
                obtain ⟨cq201, kq201, q201a, q201b, q201c⟩ := isOf hZ ej199 E_b190
                obtain ⟨_, _, ⟨T201, L201, k201, n201⟩, -, X201, ⟨Lc201, hQ201, l201, y201, z201⟩, st201⟩ := X199.virtualBack hx (y := (⟨"com/example/skope/skope/xml/Intake", "replacedUncounted", "()Z"⟩ : MethodName)) (z := (⟨"com/example/skope/skope/xml/Intake", "replacedUncounted", "()Z"⟩ : MethodName)) hown (mvT hZ (w_49 hw)) (mvT hZ (w_50 hw)) (notFace_of_selects (args := #[]) (mvT hZ (w_52 hw))) (mvT hZ (w_52 hw)) (mvT hZ (w_51 hw)) (by decide) (backOf (W := 0) (rm9 l Z a0 hw [] b190 pv184 gv184 lv184 hj199 n0 Z0 F_b190_internalParameterEntity F_b190_internalGeneralEntity F_b190_attributeList) hZ (w_53 hw) (w_39 hw) (by decide) (by decide)) q201a q201c (g := (mkF m 186 #[.val (.int p1), .val (.int p2), .val (.int p3), .val (.ref r_186), .val (.ref r_188), .val (.ref b190), .val (.int pv184), .val (.int gv184), .val (.int lv184), .val (.int (1 : Int32)), .unset] [(.ref b190)])) rfl (by rw [hml]; rfl) (Steps.refl _) (argsL := []) (rest := []) (lenOf pd_14 rfl) rfl (by show 2 * 0 + _ ≤ _; exact Nat.le_of_eq rfl) (hb hby at_186) (fun _ _ => ⟨rfl, ej199, (by decide : 14 + 0 ≤ _), (by decide : 47 + 0 ≤ _)⟩)
                dsimp only [Pt.U, Pt.locs, Pt.cells, Pt.slots] at X201 l201 y201 z201 st201 hQ201
                subst l201 y201 z201
                obtain ⟨rfl, Nq201, Kq201⟩ := hQ201
                replace NF := Fr.app NF Nq201
                clear Nq201
                refine WP.tr st201 ?_
                clear st201
                replace Kq201 := Kq201.trans (rfl : hj199 = hj199)
                have hXN : ∃ LL, Stand p l e room_1 s m #[(.int p1), (.int p2), (.int p3)] below meth c T201 LL 14 47 ∧ Fr n0 LL := ⟨_, X201, NF⟩
                clear X201 NF
                obtain ⟨LL202, X201, NF⟩ := hXN
                show WP p.tables e below _ T201 (mkF m 189 #[.val (.int p1), .val (.int p2), .val (.int p3), .val (.ref r_186), .val (.ref r_188), .val (.ref b190), .val (.int pv184), .val (.int gv184), .val (.int lv184), .val (.int (1 : Int32)), .unset] [(.int (own_ru pv184 gv184 lv184))])
                by_cases hc203 : pv184 = (0 : Int32)
                · skip
                  by_cases hc204 : gv184 = (0 : Int32)
                  · skip
                    rw [show (own_ru pv184 gv184 lv184) = (0 : Int32) from by simp [own_ru, hc203, hc204]]
                    show WP p.tables e below _ T201 (mkF m 189 #[.val (.int p1), .val (.int p2), .val (.int p3), .val (.ref r_186), .val (.ref r_188), .val (.ref b190), .val (.int pv184), .val (.int gv184), .val (.int lv184), .val (.int (1 : Int32)), .unset] [(.int (0 : Int32))])
                    refine WP.st (T' := T201) (f' := (mkF m 219 #[.val (.int p1), .val (.int p2), .val (.int p3), .val (.ref r_186), .val (.ref r_188), .val (.ref b190), .val (.int pv184), .val (.int gv184), .val (.int lv184), .val (.int (1 : Int32)), .val (.int (1 : Int32))] [])) (fun t k => ?_) ?_
                    · refine XS.iload X201.here hx rfl (hb hby at_189) rfl ?_
                      show Steps p.tables e below (T201.setTop (mkF m 191 #[.val (.int p1), .val (.int p2), .val (.int p3), .val (.ref r_186), .val (.ref r_188), .val (.ref b190), .val (.int pv184), .val (.int gv184), .val (.int lv184), .val (.int (1 : Int32)), .unset] [(.int pv184), (.int (0 : Int32))])) t
                      refine XS.ifNo X201.here hx rfl (hb hby at_191) rfl ((if0 _ _).trans (teq hc203).2) ?_
                      show Steps p.tables e below (T201.setTop (mkF m 194 #[.val (.int p1), .val (.int p2), .val (.int p3), .val (.ref r_186), .val (.ref r_188), .val (.ref b190), .val (.int pv184), .val (.int gv184), .val (.int lv184), .val (.int (1 : Int32)), .unset] [(.int (0 : Int32))])) t
                      refine XS.iload X201.here hx rfl (hb hby at_194) rfl ?_
                      show Steps p.tables e below (T201.setTop (mkF m 196 #[.val (.int p1), .val (.int p2), .val (.int p3), .val (.ref r_186), .val (.ref r_188), .val (.ref b190), .val (.int pv184), .val (.int gv184), .val (.int lv184), .val (.int (1 : Int32)), .unset] [(.int gv184), (.int (0 : Int32))])) t
                      refine XS.ifYes X201.here hx rfl (pc0 := 196) (pc' := 208) rfl (hb hby at_196) rfl ((if0 _ _).trans (teq hc204).1) (by decide) (by decide) ?_
                      show Steps p.tables e below (T201.setTop (mkF m 208 #[.val (.int p1), .val (.int p2), .val (.int p3), .val (.ref r_186), .val (.ref r_188), .val (.ref b190), .val (.int pv184), .val (.int gv184), .val (.int lv184), .val (.int (1 : Int32)), .unset] [(.int (0 : Int32))])) t
                      refine XS.iconst X201.here hx rfl (hb hby at_208) ?_
                      show Steps p.tables e below (T201.setTop (mkF m 209 #[.val (.int p1), .val (.int p2), .val (.int p3), .val (.ref r_186), .val (.ref r_188), .val (.ref b190), .val (.int pv184), .val (.int gv184), .val (.int lv184), .val (.int (1 : Int32)), .unset] [(.int (0 : Int32)), (.int (0 : Int32))])) t
                      refine XS.icmpNo X201.here hx rfl (hb hby at_209) rfl (teq (by decide : (0 : Int32) = (0 : Int32))).2 ?_
                      show Steps p.tables e below (T201.setTop (mkF m 212 #[.val (.int p1), .val (.int p2), .val (.int p3), .val (.ref r_186), .val (.ref r_188), .val (.ref b190), .val (.int pv184), .val (.int gv184), .val (.int lv184), .val (.int (1 : Int32)), .unset] [])) t
                      refine XS.iconst X201.here hx rfl (hb hby at_212) ?_
                      show Steps p.tables e below (T201.setTop (mkF m 213 #[.val (.int p1), .val (.int p2), .val (.int p3), .val (.ref r_186), .val (.ref r_188), .val (.ref b190), .val (.int pv184), .val (.int gv184), .val (.int lv184), .val (.int (1 : Int32)), .unset] [(.int (1 : Int32))])) t
                      refine XS.goto X201.here hx rfl (pc0 := 213) (pc' := 217) rfl (hb hby at_213) (by decide) (by decide) ?_
                      show Steps p.tables e below (T201.setTop (mkF m 217 #[.val (.int p1), .val (.int p2), .val (.int p3), .val (.ref r_186), .val (.ref r_188), .val (.ref b190), .val (.int pv184), .val (.int gv184), .val (.int lv184), .val (.int (1 : Int32)), .unset] [(.int (1 : Int32))])) t
                      refine XS.istore X201.here hx rfl (hb hby at_217) rfl (l' := #[.val (.int p1), .val (.int p2), .val (.int p3), .val (.ref r_186), .val (.ref r_188), .val (.ref b190), .val (.int pv184), .val (.int gv184), .val (.int lv184), .val (.int (1 : Int32)), .val (.int (1 : Int32))]) rfl ?_
                      exact k
                    exact J200 _ _   (ownWider X201 (by decide) (by decide)) Kq201 NF  
                  · skip
                    by_cases hc205 : lv184 = (0 : Int32)
                    · skip
                      rw [show (own_ru pv184 gv184 lv184) = (0 : Int32) from by simp [own_ru, hc203, hc204, hc205]]
                      show WP p.tables e below _ T201 (mkF m 189 #[.val (.int p1), .val (.int p2), .val (.int p3), .val (.ref r_186), .val (.ref r_188), .val (.ref b190), .val (.int pv184), .val (.int gv184), .val (.int lv184), .val (.int (1 : Int32)), .unset] [(.int (0 : Int32))])
                      refine WP.st (T' := T201) (f' := (mkF m 219 #[.val (.int p1), .val (.int p2), .val (.int p3), .val (.ref r_186), .val (.ref r_188), .val (.ref b190), .val (.int pv184), .val (.int gv184), .val (.int lv184), .val (.int (1 : Int32)), .val (.int (1 : Int32))] [])) (fun t k => ?_) ?_
                      · refine XS.iload X201.here hx rfl (hb hby at_189) rfl ?_
                        show Steps p.tables e below (T201.setTop (mkF m 191 #[.val (.int p1), .val (.int p2), .val (.int p3), .val (.ref r_186), .val (.ref r_188), .val (.ref b190), .val (.int pv184), .val (.int gv184), .val (.int lv184), .val (.int (1 : Int32)), .unset] [(.int pv184), (.int (0 : Int32))])) t
                        refine XS.ifNo X201.here hx rfl (hb hby at_191) rfl ((if0 _ _).trans (teq hc203).2) ?_
                        show Steps p.tables e below (T201.setTop (mkF m 194 #[.val (.int p1), .val (.int p2), .val (.int p3), .val (.ref r_186), .val (.ref r_188), .val (.ref b190), .val (.int pv184), .val (.int gv184), .val (.int lv184), .val (.int (1 : Int32)), .unset] [(.int (0 : Int32))])) t
                        refine XS.iload X201.here hx rfl (hb hby at_194) rfl ?_
                        show Steps p.tables e below (T201.setTop (mkF m 196 #[.val (.int p1), .val (.int p2), .val (.int p3), .val (.ref r_186), .val (.ref r_188), .val (.ref b190), .val (.int pv184), .val (.int gv184), .val (.int lv184), .val (.int (1 : Int32)), .unset] [(.int gv184), (.int (0 : Int32))])) t
                        refine XS.ifNo X201.here hx rfl (hb hby at_196) rfl ((if0 _ _).trans (feq hc204).1) ?_
                        show Steps p.tables e below (T201.setTop (mkF m 199 #[.val (.int p1), .val (.int p2), .val (.int p3), .val (.ref r_186), .val (.ref r_188), .val (.ref b190), .val (.int pv184), .val (.int gv184), .val (.int lv184), .val (.int (1 : Int32)), .unset] [(.int (0 : Int32))])) t
                        refine XS.iload X201.here hx rfl (hb hby at_199) rfl ?_
                        show Steps p.tables e below (T201.setTop (mkF m 201 #[.val (.int p1), .val (.int p2), .val (.int p3), .val (.ref r_186), .val (.ref r_188), .val (.ref b190), .val (.int pv184), .val (.int gv184), .val (.int lv184), .val (.int (1 : Int32)), .unset] [(.int lv184), (.int (0 : Int32))])) t
                        refine XS.ifYes X201.here hx rfl (pc0 := 201) (pc' := 208) rfl (hb hby at_201) rfl ((if0 _ _).trans (teq hc205).1) (by decide) (by decide) ?_
                        show Steps p.tables e below (T201.setTop (mkF m 208 #[.val (.int p1), .val (.int p2), .val (.int p3), .val (.ref r_186), .val (.ref r_188), .val (.ref b190), .val (.int pv184), .val (.int gv184), .val (.int lv184), .val (.int (1 : Int32)), .unset] [(.int (0 : Int32))])) t
                        refine XS.iconst X201.here hx rfl (hb hby at_208) ?_
                        show Steps p.tables e below (T201.setTop (mkF m 209 #[.val (.int p1), .val (.int p2), .val (.int p3), .val (.ref r_186), .val (.ref r_188), .val (.ref b190), .val (.int pv184), .val (.int gv184), .val (.int lv184), .val (.int (1 : Int32)), .unset] [(.int (0 : Int32)), (.int (0 : Int32))])) t
                        refine XS.icmpNo X201.here hx rfl (hb hby at_209) rfl (teq (by decide : (0 : Int32) = (0 : Int32))).2 ?_
                        show Steps p.tables e below (T201.setTop (mkF m 212 #[.val (.int p1), .val (.int p2), .val (.int p3), .val (.ref r_186), .val (.ref r_188), .val (.ref b190), .val (.int pv184), .val (.int gv184), .val (.int lv184), .val (.int (1 : Int32)), .unset] [])) t
                        refine XS.iconst X201.here hx rfl (hb hby at_212) ?_
                        show Steps p.tables e below (T201.setTop (mkF m 213 #[.val (.int p1), .val (.int p2), .val (.int p3), .val (.ref r_186), .val (.ref r_188), .val (.ref b190), .val (.int pv184), .val (.int gv184), .val (.int lv184), .val (.int (1 : Int32)), .unset] [(.int (1 : Int32))])) t
                        refine XS.goto X201.here hx rfl (pc0 := 213) (pc' := 217) rfl (hb hby at_213) (by decide) (by decide) ?_
                        show Steps p.tables e below (T201.setTop (mkF m 217 #[.val (.int p1), .val (.int p2), .val (.int p3), .val (.ref r_186), .val (.ref r_188), .val (.ref b190), .val (.int pv184), .val (.int gv184), .val (.int lv184), .val (.int (1 : Int32)), .unset] [(.int (1 : Int32))])) t
                        refine XS.istore X201.here hx rfl (hb hby at_217) rfl (l' := #[.val (.int p1), .val (.int p2), .val (.int p3), .val (.ref r_186), .val (.ref r_188), .val (.ref b190), .val (.int pv184), .val (.int gv184), .val (.int lv184), .val (.int (1 : Int32)), .val (.int (1 : Int32))]) rfl ?_
                        exact k
                      exact J200 _ _   (ownWider X201 (by decide) (by decide)) Kq201 NF  
                    · skip
                      rw [show (own_ru pv184 gv184 lv184) = (1 : Int32) from by simp [own_ru, hc203, hc204, hc205]]
                      show WP p.tables e below _ T201 (mkF m 189 #[.val (.int p1), .val (.int p2), .val (.int p3), .val (.ref r_186), .val (.ref r_188), .val (.ref b190), .val (.int pv184), .val (.int gv184), .val (.int lv184), .val (.int (1 : Int32)), .unset] [(.int (1 : Int32))])
                      refine WP.st (T' := T201) (f' := (mkF m 219 #[.val (.int p1), .val (.int p2), .val (.int p3), .val (.ref r_186), .val (.ref r_188), .val (.ref b190), .val (.int pv184), .val (.int gv184), .val (.int lv184), .val (.int (1 : Int32)), .val (.int (1 : Int32))] [])) (fun t k => ?_) ?_
                      · refine XS.iload X201.here hx rfl (hb hby at_189) rfl ?_
                        show Steps p.tables e below (T201.setTop (mkF m 191 #[.val (.int p1), .val (.int p2), .val (.int p3), .val (.ref r_186), .val (.ref r_188), .val (.ref b190), .val (.int pv184), .val (.int gv184), .val (.int lv184), .val (.int (1 : Int32)), .unset] [(.int pv184), (.int (1 : Int32))])) t
                        refine XS.ifNo X201.here hx rfl (hb hby at_191) rfl ((if0 _ _).trans (teq hc203).2) ?_
                        show Steps p.tables e below (T201.setTop (mkF m 194 #[.val (.int p1), .val (.int p2), .val (.int p3), .val (.ref r_186), .val (.ref r_188), .val (.ref b190), .val (.int pv184), .val (.int gv184), .val (.int lv184), .val (.int (1 : Int32)), .unset] [(.int (1 : Int32))])) t
                        refine XS.iload X201.here hx rfl (hb hby at_194) rfl ?_
                        show Steps p.tables e below (T201.setTop (mkF m 196 #[.val (.int p1), .val (.int p2), .val (.int p3), .val (.ref r_186), .val (.ref r_188), .val (.ref b190), .val (.int pv184), .val (.int gv184), .val (.int lv184), .val (.int (1 : Int32)), .unset] [(.int gv184), (.int (1 : Int32))])) t
                        refine XS.ifNo X201.here hx rfl (hb hby at_196) rfl ((if0 _ _).trans (feq hc204).1) ?_
                        show Steps p.tables e below (T201.setTop (mkF m 199 #[.val (.int p1), .val (.int p2), .val (.int p3), .val (.ref r_186), .val (.ref r_188), .val (.ref b190), .val (.int pv184), .val (.int gv184), .val (.int lv184), .val (.int (1 : Int32)), .unset] [(.int (1 : Int32))])) t
                        refine XS.iload X201.here hx rfl (hb hby at_199) rfl ?_
                        show Steps p.tables e below (T201.setTop (mkF m 201 #[.val (.int p1), .val (.int p2), .val (.int p3), .val (.ref r_186), .val (.ref r_188), .val (.ref b190), .val (.int pv184), .val (.int gv184), .val (.int lv184), .val (.int (1 : Int32)), .unset] [(.int lv184), (.int (1 : Int32))])) t
                        refine XS.ifNo X201.here hx rfl (hb hby at_201) rfl ((if0 _ _).trans (feq hc205).1) ?_
                        show Steps p.tables e below (T201.setTop (mkF m 204 #[.val (.int p1), .val (.int p2), .val (.int p3), .val (.ref r_186), .val (.ref r_188), .val (.ref b190), .val (.int pv184), .val (.int gv184), .val (.int lv184), .val (.int (1 : Int32)), .unset] [(.int (1 : Int32))])) t
                        refine XS.iconst X201.here hx rfl (hb hby at_204) ?_
                        show Steps p.tables e below (T201.setTop (mkF m 205 #[.val (.int p1), .val (.int p2), .val (.int p3), .val (.ref r_186), .val (.ref r_188), .val (.ref b190), .val (.int pv184), .val (.int gv184), .val (.int lv184), .val (.int (1 : Int32)), .unset] [(.int (1 : Int32)), (.int (1 : Int32))])) t
                        refine XS.goto X201.here hx rfl (pc0 := 205) (pc' := 209) rfl (hb hby at_205) (by decide) (by decide) ?_
                        show Steps p.tables e below (T201.setTop (mkF m 209 #[.val (.int p1), .val (.int p2), .val (.int p3), .val (.ref r_186), .val (.ref r_188), .val (.ref b190), .val (.int pv184), .val (.int gv184), .val (.int lv184), .val (.int (1 : Int32)), .unset] [(.int (1 : Int32)), (.int (1 : Int32))])) t
                        refine XS.icmpNo X201.here hx rfl (hb hby at_209) rfl (teq (by decide : (1 : Int32) = (1 : Int32))).2 ?_
                        show Steps p.tables e below (T201.setTop (mkF m 212 #[.val (.int p1), .val (.int p2), .val (.int p3), .val (.ref r_186), .val (.ref r_188), .val (.ref b190), .val (.int pv184), .val (.int gv184), .val (.int lv184), .val (.int (1 : Int32)), .unset] [])) t
                        refine XS.iconst X201.here hx rfl (hb hby at_212) ?_
                        show Steps p.tables e below (T201.setTop (mkF m 213 #[.val (.int p1), .val (.int p2), .val (.int p3), .val (.ref r_186), .val (.ref r_188), .val (.ref b190), .val (.int pv184), .val (.int gv184), .val (.int lv184), .val (.int (1 : Int32)), .unset] [(.int (1 : Int32))])) t
                        refine XS.goto X201.here hx rfl (pc0 := 213) (pc' := 217) rfl (hb hby at_213) (by decide) (by decide) ?_
                        show Steps p.tables e below (T201.setTop (mkF m 217 #[.val (.int p1), .val (.int p2), .val (.int p3), .val (.ref r_186), .val (.ref r_188), .val (.ref b190), .val (.int pv184), .val (.int gv184), .val (.int lv184), .val (.int (1 : Int32)), .unset] [(.int (1 : Int32))])) t
                        refine XS.istore X201.here hx rfl (hb hby at_217) rfl (l' := #[.val (.int p1), .val (.int p2), .val (.int p3), .val (.ref r_186), .val (.ref r_188), .val (.ref b190), .val (.int pv184), .val (.int gv184), .val (.int lv184), .val (.int (1 : Int32)), .val (.int (1 : Int32))]) rfl ?_
                        exact k
                      exact J200 _ _   (ownWider X201 (by decide) (by decide)) Kq201 NF  
                · skip
                  rw [show (own_ru pv184 gv184 lv184) = (1 : Int32) from by simp [own_ru, hc203]]
                  show WP p.tables e below _ T201 (mkF m 189 #[.val (.int p1), .val (.int p2), .val (.int p3), .val (.ref r_186), .val (.ref r_188), .val (.ref b190), .val (.int pv184), .val (.int gv184), .val (.int lv184), .val (.int (1 : Int32)), .unset] [(.int (1 : Int32))])
                  refine WP.st (T' := T201) (f' := (mkF m 219 #[.val (.int p1), .val (.int p2), .val (.int p3), .val (.ref r_186), .val (.ref r_188), .val (.ref b190), .val (.int pv184), .val (.int gv184), .val (.int lv184), .val (.int (1 : Int32)), .val (.int (1 : Int32))] [])) (fun t k => ?_) ?_
                  · refine XS.iload X201.here hx rfl (hb hby at_189) rfl ?_
                    show Steps p.tables e below (T201.setTop (mkF m 191 #[.val (.int p1), .val (.int p2), .val (.int p3), .val (.ref r_186), .val (.ref r_188), .val (.ref b190), .val (.int pv184), .val (.int gv184), .val (.int lv184), .val (.int (1 : Int32)), .unset] [(.int pv184), (.int (1 : Int32))])) t
                    refine XS.ifYes X201.here hx rfl (pc0 := 191) (pc' := 204) rfl (hb hby at_191) rfl ((if0 _ _).trans (feq hc203).2) (by decide) (by decide) ?_
                    show Steps p.tables e below (T201.setTop (mkF m 204 #[.val (.int p1), .val (.int p2), .val (.int p3), .val (.ref r_186), .val (.ref r_188), .val (.ref b190), .val (.int pv184), .val (.int gv184), .val (.int lv184), .val (.int (1 : Int32)), .unset] [(.int (1 : Int32))])) t
                    refine XS.iconst X201.here hx rfl (hb hby at_204) ?_
                    show Steps p.tables e below (T201.setTop (mkF m 205 #[.val (.int p1), .val (.int p2), .val (.int p3), .val (.ref r_186), .val (.ref r_188), .val (.ref b190), .val (.int pv184), .val (.int gv184), .val (.int lv184), .val (.int (1 : Int32)), .unset] [(.int (1 : Int32)), (.int (1 : Int32))])) t
                    refine XS.goto X201.here hx rfl (pc0 := 205) (pc' := 209) rfl (hb hby at_205) (by decide) (by decide) ?_
                    show Steps p.tables e below (T201.setTop (mkF m 209 #[.val (.int p1), .val (.int p2), .val (.int p3), .val (.ref r_186), .val (.ref r_188), .val (.ref b190), .val (.int pv184), .val (.int gv184), .val (.int lv184), .val (.int (1 : Int32)), .unset] [(.int (1 : Int32)), (.int (1 : Int32))])) t
                    refine XS.icmpNo X201.here hx rfl (hb hby at_209) rfl (teq (by decide : (1 : Int32) = (1 : Int32))).2 ?_
                    show Steps p.tables e below (T201.setTop (mkF m 212 #[.val (.int p1), .val (.int p2), .val (.int p3), .val (.ref r_186), .val (.ref r_188), .val (.ref b190), .val (.int pv184), .val (.int gv184), .val (.int lv184), .val (.int (1 : Int32)), .unset] [])) t
                    refine XS.iconst X201.here hx rfl (hb hby at_212) ?_
                    show Steps p.tables e below (T201.setTop (mkF m 213 #[.val (.int p1), .val (.int p2), .val (.int p3), .val (.ref r_186), .val (.ref r_188), .val (.ref b190), .val (.int pv184), .val (.int gv184), .val (.int lv184), .val (.int (1 : Int32)), .unset] [(.int (1 : Int32))])) t
                    refine XS.goto X201.here hx rfl (pc0 := 213) (pc' := 217) rfl (hb hby at_213) (by decide) (by decide) ?_
                    show Steps p.tables e below (T201.setTop (mkF m 217 #[.val (.int p1), .val (.int p2), .val (.int p3), .val (.ref r_186), .val (.ref r_188), .val (.ref b190), .val (.int pv184), .val (.int gv184), .val (.int lv184), .val (.int (1 : Int32)), .unset] [(.int (1 : Int32))])) t
                    refine XS.istore X201.here hx rfl (hb hby at_217) rfl (l' := #[.val (.int p1), .val (.int p2), .val (.int p3), .val (.ref r_186), .val (.ref r_188), .val (.ref b190), .val (.int pv184), .val (.int gv184), .val (.int lv184), .val (.int (1 : Int32)), .val (.int (1 : Int32))]) rfl ?_
                    exact k
                  exact J200 _ _   (ownWider X201 (by decide) (by decide)) Kq201 NF  
              refine WP.st (T' := Tj198) (f' := (mkF m 173 #[.val (.int p1), .val (.int p2), .val (.int p3), .val (.ref r_186), .val (.ref r_188), .val (.ref b190), .val (.int pv169), .val (.int gv169), .val (.int lv169), .val (.int (1 : Int32)), .unset] [(.int (p1 &&& (16 : Int32)))])) (fun t k => ?_) ?_
              · refine XS.iloadN X198.here hx rfl (hb hby at_169) rfl ?_
                show Steps p.tables e below (Tj198.setTop (mkF m 170 #[.val (.int p1), .val (.int p2), .val (.int p3), .val (.ref r_186), .val (.ref r_188), .val (.ref b190), .val (.int pv169), .val (.int gv169), .val (.int lv169), .val (.int (1 : Int32)), .unset] [(.int p1)])) t
                refine XS.bipush X198.here hx rfl (hb hby at_170) ?_
                show Steps p.tables e below (Tj198.setTop (mkF m 172 #[.val (.int p1), .val (.int p2), .val (.int p3), .val (.ref r_186), .val (.ref r_188), .val (.ref b190), .val (.int pv169), .val (.int gv169), .val (.int lv169), .val (.int (1 : Int32)), .unset] [(.int (16 : Int32)), (.int p1)])) t
                refine XS.iand X198.here hx rfl (hb hby at_172) rfl ?_
                exact k
              by_cases hc206 : (p1 &&& (16 : Int32)) = (0 : Int32)
              · skip
                refine WP.st (T' := Tj198) (f' := (mkF m 184 #[.val (.int p1), .val (.int p2), .val (.int p3), .val (.ref r_186), .val (.ref r_188), .val (.ref b190), .val (.int pv169), .val (.int gv169), .val (.int lv169), .val (.int (1 : Int32)), .unset] [])) (fun t k => ?_) ?_
                · refine XS.ifYes X198.here hx rfl (pc0 := 173) (pc' := 184) rfl (hb hby at_173) rfl ((if0 _ _).trans (teq hc206).1) (by decide) (by decide) ?_
                  exact k
                exact J199 _ _ _ _ _ _ pv169 gv169 lv169 tv169 db169 hsE SI W0 hZ hown (ownWider X198 (by decide) (by decide)) ej198 NF Z0 OLD E_r_186 F_r_186_coder F_r_186_value V_ta_186 E_r_188 F_r_188_coder F_r_188_value V_ta_188 JK E_b190 F_b190_internalParameterEntity F_b190_internalGeneralEntity F_b190_attributeList F_b190_documentTypeDeclaration F_b190_declaringBytes F_b190_bytes F_b190_stretch F_b190_started 
              · skip
                refine WP.st (T' := Tj198) (f' := (mkF m 178 #[.val (.int p1), .val (.int p2), .val (.int p3), .val (.ref r_186), .val (.ref r_188), .val (.ref b190), .val (.int pv169), .val (.int gv169), .val (.int lv169), .val (.int (1 : Int32)), .unset] [(.ref b190)])) (fun t k => ?_) ?_
                · refine XS.ifNo X198.here hx rfl (hb hby at_173) rfl ((if0 _ _).trans (feq hc206).1) ?_
                  show Steps p.tables e below (Tj198.setTop (mkF m 176 #[.val (.int p1), .val (.int p2), .val (.int p3), .val (.ref r_186), .val (.ref r_188), .val (.ref b190), .val (.int pv169), .val (.int gv169), .val (.int lv169), .val (.int (1 : Int32)), .unset] [])) t
                  refine XS.aload X198.here hx rfl (hb hby at_176) rfl rfl ?_
                  exact k
                obtain ⟨cq207, kq207, q207a, q207b, q207c⟩ := isOf hZ ej198 E_b190
                obtain ⟨_, _, ⟨T207, L207, k207, n207⟩, -, X207, ⟨Lc207, hQ207, l207, y207, z207⟩, st207⟩ := X198.virtualBack hx (y := (⟨"com/example/skope/skope/xml/Intake", "addAttributeList", "()V"⟩ : MethodName)) (z := (⟨"com/example/skope/skope/xml/Intake", "addAttributeList", "()V"⟩ : MethodName)) hown (mvT hZ (w_124 hw)) (mvT hZ (w_125 hw)) (notFace_of_selects (args := #[]) (mvT hZ (w_127 hw))) (mvT hZ (w_127 hw)) (mvT hZ (w_126 hw)) (by decide) (backOf (W := 0) (rm22 l Z a0 hw [] b190 pv169 gv169 lv169 tv169 db169 (0 : Int64) (0 : Int64) (0 : Int32) hj198 n0 Z0 E_b190 g_b190 F_b190_internalParameterEntity F_b190_internalGeneralEntity F_b190_attributeList F_b190_documentTypeDeclaration F_b190_declaringBytes F_b190_bytes F_b190_stretch F_b190_started) hZ (w_128 hw) (w_39 hw) (by decide) (by decide)) q207a q207c (g := (mkF m 178 #[.val (.int p1), .val (.int p2), .val (.int p3), .val (.ref r_186), .val (.ref r_188), .val (.ref b190), .val (.int pv169), .val (.int gv169), .val (.int lv169), .val (.int (1 : Int32)), .unset] [(.ref b190)])) rfl (by rw [hml]; rfl) (Steps.refl _) (argsL := []) (rest := []) (lenOf pd_13 rfl) rfl (by show 2 * 0 + _ ≤ _; exact Nat.le_of_eq rfl) (hb hby at_178) (fun _ _ => ⟨rfl, ej198, (by decide : 14 + 0 ≤ _), (by decide : 47 + 0 ≤ _)⟩)
                dsimp only [Pt.U, Pt.locs, Pt.cells, Pt.slots] at X207 l207 y207 z207 st207 hQ207
                subst l207 y207 z207
                obtain ⟨rfl, Nq207, Kq207, nF207_b190_internalParameterEntity, nF207_b190_internalGeneralEntity, nF207_b190_attributeList, nF207_b190_documentTypeDeclaration, nF207_b190_declaringBytes, nF207_b190_bytes, nF207_b190_stretch, nF207_b190_started⟩ := hQ207
                replace NF := Fr.app NF Nq207
                clear Nq207
                refine WP.tr st207 ?_
                clear st207
                obtain ⟨h207, e207⟩ : ∃ h, T207.heap = h := ⟨_, rfl⟩
                rw [e207] at Kq207 nF207_b190_internalParameterEntity nF207_b190_internalGeneralEntity nF207_b190_attributeList nF207_b190_documentTypeDeclaration nF207_b190_declaringBytes nF207_b190_bytes nF207_b190_stretch nF207_b190_started
                replace JK := own_POK.keep JK Kq207 E_b190 (by decide) (w_38 hw)
                replace OLD := OLD.keep Kq207 (allS g_b190 all0)
                replace E_r_186 := E_r_186.keep Kq207
                replace F_r_186_coder := F_r_186_coder.keep Kq207 (by exact ninS ne_r_186_b190 (nin0))
                replace F_r_186_value := F_r_186_value.keep Kq207 (by exact ninS ne_r_186_b190 (nin0))
                replace V_ta_186 := V_ta_186.keep Kq207 (by exact ninS ne_ta_186_b190 (nin0))
                replace E_r_188 := E_r_188.keep Kq207
                replace F_r_188_coder := F_r_188_coder.keep Kq207 (by exact ninS ne_r_188_b190 (nin0))
                replace F_r_188_value := F_r_188_value.keep Kq207 (by exact ninS ne_r_188_b190 (nin0))
                replace V_ta_188 := V_ta_188.keep Kq207 (by exact ninS ne_ta_188_b190 (nin0))
                replace E_b190 := E_b190.keep Kq207
                clear F_b190_internalParameterEntity
                clear F_b190_internalGeneralEntity
                clear F_b190_attributeList
                clear F_b190_documentTypeDeclaration
                clear F_b190_declaringBytes
                clear F_b190_bytes
                clear F_b190_stretch
                clear F_b190_started
                replace Z0 := Nat.le_trans Z0 Kq207.1
                replace W0 := Nat.le_trans W0 Kq207.1
                clear Kq207
                have F_b190_internalParameterEntity := nF207_b190_internalParameterEntity
                clear nF207_b190_internalParameterEntity
                have F_b190_internalGeneralEntity := nF207_b190_internalGeneralEntity
                clear nF207_b190_internalGeneralEntity
                have F_b190_attributeList := nF207_b190_attributeList
                clear nF207_b190_attributeList
                have F_b190_documentTypeDeclaration := nF207_b190_documentTypeDeclaration
                clear nF207_b190_documentTypeDeclaration
                have F_b190_declaringBytes := nF207_b190_declaringBytes
                clear nF207_b190_declaringBytes
                have F_b190_bytes := nF207_b190_bytes
                clear nF207_b190_bytes
                have F_b190_stretch := nF207_b190_stretch
                clear nF207_b190_stretch
                have F_b190_started := nF207_b190_started
                clear nF207_b190_started
                have hXN : ∃ LL, Stand p l e room_1 s m #[(.int p1), (.int p2), (.int p3)] below meth c T207 LL 14 47 ∧ Fr n0 LL := ⟨_, X207, NF⟩
                clear X207 NF
                obtain ⟨LL208, X207, NF⟩ := hXN
                show WP p.tables e below _ T207 (mkF m 181 #[.val (.int p1), .val (.int p2), .val (.int p3), .val (.ref r_186), .val (.ref r_188), .val (.ref b190), .val (.int pv169), .val (.int gv169), .val (.int lv169), .val (.int (1 : Int32)), .unset] [])
                refine WP.st (T' := T207) (f' := (mkF m 184 #[.val (.int p1), .val (.int p2), .val (.int p3), .val (.ref r_186), .val (.ref r_188), .val (.ref b190), .val (.int pv169), .val (.int gv169), .val (.int (1 : Int32)), .val (.int (1 : Int32)), .unset] [])) (fun t k => ?_) ?_
                · refine XS.iconst X207.here hx rfl (hb hby at_181) ?_
                  show Steps p.tables e below (T207.setTop (mkF m 182 #[.val (.int p1), .val (.int p2), .val (.int p3), .val (.ref r_186), .val (.ref r_188), .val (.ref b190), .val (.int pv169), .val (.int gv169), .val (.int lv169), .val (.int (1 : Int32)), .unset] [(.int (1 : Int32))])) t
                  refine XS.istore X207.here hx rfl (hb hby at_182) rfl (l' := #[.val (.int p1), .val (.int p2), .val (.int p3), .val (.ref r_186), .val (.ref r_188), .val (.ref b190), .val (.int pv169), .val (.int gv169), .val (.int (1 : Int32)), .val (.int (1 : Int32)), .unset]) rfl ?_
                  exact k
                exact J199 _ _ _ _ _ _ pv169 gv169 (1 : Int32) tv169 db169 hsE SI W0 hZ hown (ownWider X207 (by decide) (by decide)) e207 NF Z0 OLD E_r_186 F_r_186_coder F_r_186_value V_ta_186 E_r_188 F_r_188_coder F_r_188_value V_ta_188 JK E_b190 F_b190_internalParameterEntity F_b190_internalGeneralEntity F_b190_attributeList F_b190_documentTypeDeclaration F_b190_declaringBytes F_b190_bytes F_b190_stretch F_b190_started 
            refine WP.st (T' := Tj197) (f' := (mkF m 142 #[.val (.int p1), .val (.int p2), .val (.int p3), .val (.ref r_186), .val (.ref r_188), .val (.ref b190), .val (.int pv138), .val (.int gv138), .val (.int lv138), .val (.int (1 : Int32)), .unset] [(.int (p1 &&& (8 : Int32)))])) (fun t k => ?_) ?_
            · refine XS.iloadN X197.here hx rfl (hb hby at_138) rfl ?_
              show Steps p.tables e below (Tj197.setTop (mkF m 139 #[.val (.int p1), .val (.int p2), .val (.int p3), .val (.ref r_186), .val (.ref r_188), .val (.ref b190), .val (.int pv138), .val (.int gv138), .val (.int lv138), .val (.int (1 : Int32)), .unset] [(.int p1)])) t
              refine XS.bipush X197.here hx rfl (hb hby at_139) ?_
              show Steps p.tables e below (Tj197.setTop (mkF m 141 #[.val (.int p1), .val (.int p2), .val (.int p3), .val (.ref r_186), .val (.ref r_188), .val (.ref b190), .val (.int pv138), .val (.int gv138), .val (.int lv138), .val (.int (1 : Int32)), .unset] [(.int (8 : Int32)), (.int p1)])) t
              refine XS.iand X197.here hx rfl (hb hby at_141) rfl ?_
              exact k
            by_cases hc209 : (p1 &&& (8 : Int32)) = (0 : Int32)
            · skip
              refine WP.st (T' := Tj197) (f' := (mkF m 169 #[.val (.int p1), .val (.int p2), .val (.int p3), .val (.ref r_186), .val (.ref r_188), .val (.ref b190), .val (.int pv138), .val (.int gv138), .val (.int lv138), .val (.int (1 : Int32)), .unset] [])) (fun t k => ?_) ?_
              · refine XS.ifYes X197.here hx rfl (pc0 := 142) (pc' := 169) rfl (hb hby at_142) rfl ((if0 _ _).trans (teq hc209).1) (by decide) (by decide) ?_
                exact k
              exact J198 _ _ _ _ _ _ pv138 gv138 lv138 tv138 db138 hsE SI W0 hZ hown (ownWider X197 (by decide) (by decide)) ej197 NF Z0 OLD E_r_186 F_r_186_coder F_r_186_value V_ta_186 E_r_188 F_r_188_coder F_r_188_value V_ta_188 JK E_b190 F_b190_internalParameterEntity F_b190_internalGeneralEntity F_b190_attributeList F_b190_documentTypeDeclaration F_b190_declaringBytes F_b190_bytes F_b190_stretch F_b190_started 
            · skip
              refine WP.st (T' := Tj197) (f' := (mkF m 145 #[.val (.int p1), .val (.int p2), .val (.int p3), .val (.ref r_186), .val (.ref r_188), .val (.ref b190), .val (.int pv138), .val (.int gv138), .val (.int lv138), .val (.int (1 : Int32)), .unset] [])) (fun t k => ?_) ?_
              · refine XS.ifNo X197.here hx rfl (hb hby at_142) rfl ((if0 _ _).trans (feq hc209).1) ?_
                exact k
              by_cases hc210 : own_isP cs_188 = (1 : Int32)
              · skip
                refine WP.st (T' := Tj197) (f' := (mkF m 149 #[.val (.int p1), .val (.int p2), .val (.int p3), .val (.ref r_186), .val (.ref r_188), .val (.ref b190), .val (.int pv138), .val (.int gv138), .val (.int lv138), .val (.int (1 : Int32)), .unset] [(.ref r_188), (.ref b190)])) (fun t k => ?_) ?_
                · refine XS.aload X197.here hx rfl (hb hby at_145) rfl rfl ?_
                  show Steps p.tables e below (Tj197.setTop (mkF m 147 #[.val (.int p1), .val (.int p2), .val (.int p3), .val (.ref r_186), .val (.ref r_188), .val (.ref b190), .val (.int pv138), .val (.int gv138), .val (.int lv138), .val (.int (1 : Int32)), .unset] [(.ref b190)])) t
                  refine XS.aload X197.here hx rfl (hb hby at_147) rfl rfl ?_
                  exact k
                subst hsE
                obtain ⟨cq211, kq211, q211a, q211b, q211c⟩ := isOf hZ ej197 E_b190
                obtain ⟨_, _, ⟨T211, L211, k211, n211⟩, -, X211, SJ211, gr211, ⟨Lc211, hQ211, l211, y211, z211⟩, st211⟩ := X197.virtualBackS hx (y := (⟨"com/example/skope/skope/xml/Intake", "addInternalEntity", "(Ljava/lang/String;)V"⟩ : MethodName)) (z := (⟨"com/example/skope/skope/xml/Intake", "addInternalEntity", "(Ljava/lang/String;)V"⟩ : MethodName)) hown (mvT hZ (w_58 hw)) (mvT hZ (w_59 hw)) (notFace_of_selects (args := #[]) (mvT hZ (w_61 hw))) (mvT hZ (w_61 hw)) (mvT hZ (w_60 hw)) (by decide) (own_backOfJ (J := own_POK Z hj197) (W := 0) (rm10y l Z a0 hw [] b190 r_188 pv138 gv138 lv138 tv138 db138 (0 : Int64) (0 : Int64) (0 : Int32) ta_188 kb_188 cs_188 gC hj197 n0 Z0 E_b190 g_b190 F_b190_internalParameterEntity F_b190_internalGeneralEntity F_b190_attributeList F_b190_documentTypeDeclaration F_b190_declaringBytes F_b190_bytes F_b190_stretch F_b190_started E_r_188 F_r_188_value F_r_188_coder V_ta_188 (hcs_188 : ∀ c ∈ cs_188, own_byte c) (hcl_188 : cs_188.length ≤ 2) OLD (O2 : Sta Z Z.heap "java/lang/String" "COMPACT_STRINGS" "Z" (.int gC)) (hz : ¬ gC = (0 : Int32)) (hCHP : Jvm.Lit.constHeld Z "com/example/skope/skope/xml/Intake" 64) (hCW : Jvm.Lit.compactW.before a0 Z = true) hc210) hZ (fun _ q => own_POK.mv (s := s0.setVm vmw) JK q) (w_62 hw) (w_39 hw) (by decide) (by decide)) q211a q211c (g := (mkF m 149 #[.val (.int p1), .val (.int p2), .val (.int p3), .val (.ref r_186), .val (.ref r_188), .val (.ref b190), .val (.int pv138), .val (.int gv138), .val (.int lv138), .val (.int (1 : Int32)), .unset] [(.ref r_188), (.ref b190)])) rfl (by rw [hml]; rfl) (Steps.refl _) (argsL := [(.ref r_188)]) (rest := []) (lenOf pd_15 rfl) rfl (by show 2 * 0 + _ ≤ _; exact Nat.le_of_eq rfl) (hb hby at_149) (fun _ _ => ⟨rfl, ej197, (by decide : 12 + 2 ≤ _), (by decide : 39 + 8 ≤ _)⟩)
                dsimp only [Pt.U, Pt.locs, Pt.cells, Pt.slots] at X211 l211 y211 z211 st211 hQ211 SJ211 gr211
                subst l211 y211 z211
                have SI211 := foldS SI (T := Tj197) (Nat.le_trans W0 (Nat.le_of_eq (by rw [ej197]))) SJ211 gr211
                have hZ211 := State.Warmed39.trans (t := s0.setVm vmw) hZ SJ211.1
                have hown211 : T211.vm.findClass "com/example/skope/skope/xml/IntakeReplacedUncountedPinLaw" = some m.cls := by rw [SJ211.1.alike.findClass]; exact hown
                obtain ⟨rfl, Nq211, Kq211, nF211_b190_internalParameterEntity, nF211_b190_internalGeneralEntity, nF211_b190_attributeList, nF211_b190_documentTypeDeclaration, nF211_b190_declaringBytes, nF211_b190_bytes, nF211_b190_stretch, nF211_b190_started, nJ211⟩ := hQ211
                replace NF := Fr.app NF Nq211
                clear Nq211
                refine WP.tr st211 ?_
                clear st211
                obtain ⟨h211, e211⟩ : ∃ h, T211.heap = h := ⟨_, rfl⟩
                clear JK
                rw [e211] at Kq211 nF211_b190_internalParameterEntity nF211_b190_internalGeneralEntity nF211_b190_attributeList nF211_b190_documentTypeDeclaration nF211_b190_declaringBytes nF211_b190_bytes nF211_b190_stretch nF211_b190_started nJ211
                replace OLD := OLD.keep Kq211 (allS g_b190 all0)
                replace E_r_186 := E_r_186.keep Kq211
                replace F_r_186_coder := F_r_186_coder.keep Kq211 (by exact ninS ne_r_186_b190 (nin0))
                replace F_r_186_value := F_r_186_value.keep Kq211 (by exact ninS ne_r_186_b190 (nin0))
                replace V_ta_186 := V_ta_186.keep Kq211 (by exact ninS ne_ta_186_b190 (nin0))
                replace E_r_188 := E_r_188.keep Kq211
                replace F_r_188_coder := F_r_188_coder.keep Kq211 (by exact ninS ne_r_188_b190 (nin0))
                replace F_r_188_value := F_r_188_value.keep Kq211 (by exact ninS ne_r_188_b190 (nin0))
                replace V_ta_188 := V_ta_188.keep Kq211 (by exact ninS ne_ta_188_b190 (nin0))
                replace E_b190 := E_b190.keep Kq211
                clear F_b190_internalParameterEntity
                clear F_b190_internalGeneralEntity
                clear F_b190_attributeList
                clear F_b190_documentTypeDeclaration
                clear F_b190_declaringBytes
                clear F_b190_bytes
                clear F_b190_stretch
                clear F_b190_started
                replace Z0 := Nat.le_trans Z0 Kq211.1
                replace W0 := Nat.le_trans W0 Kq211.1
                clear Kq211
                have F_b190_internalParameterEntity := nF211_b190_internalParameterEntity
                clear nF211_b190_internalParameterEntity
                have F_b190_internalGeneralEntity := nF211_b190_internalGeneralEntity
                clear nF211_b190_internalGeneralEntity
                have F_b190_attributeList := nF211_b190_attributeList
                clear nF211_b190_attributeList
                have F_b190_documentTypeDeclaration := nF211_b190_documentTypeDeclaration
                clear nF211_b190_documentTypeDeclaration
                have F_b190_declaringBytes := nF211_b190_declaringBytes
                clear nF211_b190_declaringBytes
                have F_b190_bytes := nF211_b190_bytes
                clear nF211_b190_bytes
                have F_b190_stretch := nF211_b190_stretch
                clear nF211_b190_stretch
                have F_b190_started := nF211_b190_started
                clear nF211_b190_started
                clear W0
                have W0 : T211.heap.size ≤ h211.size := Nat.le_of_eq (by rw [e211])
                clear hZ hown SI
                obtain ⟨vmw, hvw⟩ : ∃ z, z = T211.vm := ⟨_, rfl⟩
                replace hZ211 : Z.Warmed39 vmw := by rw [hvw]; exact hZ211
                replace hown211 : vmw.findClass "com/example/skope/skope/xml/IntakeReplacedUncountedPinLaw" = some m.cls := by rw [hvw]; exact hown211
                have SI := SI211
                clear SI211
                rw [← hvw] at SI
                have JK : own_POK Z h211 vmw := by rw [hvw]; exact nJ211
                clear nJ211
                obtain ⟨s, hsE⟩ : ∃ z, z = s0.setVm vmw := ⟨_, rfl⟩
                have hX : ∃ LL, Stand p l e room_1 s m #[(.int p1), (.int p2), (.int p3)] below meth c T211 LL 14 47 ∧ Fr n0 LL := ⟨_, (by rw [hsE, hvw]; exact X211), NF⟩
                clear X211 NF
                obtain ⟨LL211, X211, NF⟩ := hX
                clear hvw
                have hZ : Z.Warmed39 s.vm := by rw [hsE]; exact hZ211
                have hown : s.vm.findClass "com/example/skope/skope/xml/IntakeReplacedUncountedPinLaw" = some m.cls := by rw [hsE]; exact hown211
                clear hZ211 hown211
                have hXN : ∃ LL, Stand p l e room_1 s m #[(.int p1), (.int p2), (.int p3)] below meth c T211 LL 14 47 ∧ Fr n0 LL := ⟨_, X211, NF⟩
                clear X211 NF
                obtain ⟨LL212, X211, NF⟩ := hXN
                show WP p.tables e below _ T211 (mkF m 152 #[.val (.int p1), .val (.int p2), .val (.int p3), .val (.ref r_186), .val (.ref r_188), .val (.ref b190), .val (.int pv138), .val (.int gv138), .val (.int lv138), .val (.int (1 : Int32)), .unset] [])
                refine WP.st (T' := T211) (f' := (mkF m 154 #[.val (.int p1), .val (.int p2), .val (.int p3), .val (.ref r_186), .val (.ref r_188), .val (.ref b190), .val (.int pv138), .val (.int gv138), .val (.int lv138), .val (.int (1 : Int32)), .unset] [(.ref r_188)])) (fun t k => ?_) ?_
                · refine XS.aload X211.here hx rfl (hb hby at_152) rfl rfl ?_
                  exact k
                obtain ⟨_, _, ⟨T213, L213, k213, n213⟩, -, X213, ⟨Lc213, hQ213, l213, y213, z213⟩, st213⟩ := Jvm.LawKit.callS X211 hx (y := (⟨"com/example/skope/skope/xml/IntakeReplacedUncountedPinLaw", "isParam", "(Ljava/lang/String;)Z"⟩ : MethodName)) hown (mvT hZ (w_84 hw)) (mvT hZ (w_85 hw)) (mvT hZ (w_2 hw)) (mvT hZ (w_86 hw)) (by decide) (backOf (W := 0) (rm15 l Z a0 hw [] r_188 ta_188 kb_188 cs_188 gC gF h211 n0 Z0 E_r_188 F_r_188_value F_r_188_coder V_ta_188 (hcs_188 : ∀ c ∈ cs_188, own_byte c) (hcl_188 : cs_188.length ≤ 2) OLD (O2 : Sta Z Z.heap "java/lang/String" "COMPACT_STRINGS" "Z" (.int gC)) (hz : ¬ gC = (0 : Int32)) (O4 : Sta Z Z.heap "jdk/internal/util/Preconditions" "SIOOBE_FORMATTER" "Ljava/util/function/BiFunction;" gF) (rf : gF.isRef = true)) hZ (w_86 hw) (w_2 hw) (by decide) (by decide)) (g := (mkF m 154 #[.val (.int p1), .val (.int p2), .val (.int p3), .val (.ref r_186), .val (.ref r_188), .val (.ref b190), .val (.int pv138), .val (.int gv138), .val (.int lv138), .val (.int (1 : Int32)), .unset] [(.ref r_188)])) rfl (by rw [hml]; rfl) (argsL := [(.ref r_188)]) (rest := []) (lenOf pd_11 rfl) rfl (by show 2 * 0 + _ ≤ _; exact Nat.le_of_eq rfl) (hb hby at_154) (fun _ _ => ⟨rfl, e211, (by decide : 14 + 0 ≤ _), (by decide : 47 + 0 ≤ _)⟩)
                dsimp only [Pt.U, Pt.locs, Pt.cells, Pt.slots] at X213 l213 y213 z213 st213 hQ213
                subst l213 y213 z213
                obtain ⟨rfl, Nq213, Kq213⟩ := hQ213
                replace NF := Fr.app NF Nq213
                clear Nq213
                refine WP.st st213 ?_
                clear st213
                replace Kq213 := Kq213.trans (rfl : h211 = h211)
                have hXN : ∃ LL, Stand p l e room_1 s m #[(.int p1), (.int p2), (.int p3)] below meth c T213 LL 14 47 ∧ Fr n0 LL := ⟨_, X213, NF⟩
                clear X213 NF
                obtain ⟨LL214, X213, NF⟩ := hXN
                show WP p.tables e below _ T213 (mkF m 157 #[.val (.int p1), .val (.int p2), .val (.int p3), .val (.ref r_186), .val (.ref r_188), .val (.ref b190), .val (.int pv138), .val (.int gv138), .val (.int lv138), .val (.int (1 : Int32)), .unset] [(.int (own_isP cs_188))])
                rw [show (own_isP cs_188) = (1 : Int32) from hc210]
                show WP p.tables e below _ T213 (mkF m 157 #[.val (.int p1), .val (.int p2), .val (.int p3), .val (.ref r_186), .val (.ref r_188), .val (.ref b190), .val (.int pv138), .val (.int gv138), .val (.int lv138), .val (.int (1 : Int32)), .unset] [(.int (1 : Int32))])
                refine WP.st (T' := T213) (f' := (mkF m 169 #[.val (.int p1), .val (.int p2), .val (.int p3), .val (.ref r_186), .val (.ref r_188), .val (.ref b190), .val (.int (1 : Int32)), .val (.int gv138), .val (.int lv138), .val (.int (1 : Int32)), .unset] [])) (fun t k => ?_) ?_
                · refine XS.ifNo X213.here hx rfl (hb hby at_157) rfl ((if0 _ _).trans (feq (by decide : ¬ ((1 : Int32) = (0 : Int32)))).1) ?_
                  show Steps p.tables e below (T213.setTop (mkF m 160 #[.val (.int p1), .val (.int p2), .val (.int p3), .val (.ref r_186), .val (.ref r_188), .val (.ref b190), .val (.int pv138), .val (.int gv138), .val (.int lv138), .val (.int (1 : Int32)), .unset] [])) t
                  refine XS.iconst X213.here hx rfl (hb hby at_160) ?_
                  show Steps p.tables e below (T213.setTop (mkF m 161 #[.val (.int p1), .val (.int p2), .val (.int p3), .val (.ref r_186), .val (.ref r_188), .val (.ref b190), .val (.int pv138), .val (.int gv138), .val (.int lv138), .val (.int (1 : Int32)), .unset] [(.int (1 : Int32))])) t
                  refine XS.istore X213.here hx rfl (hb hby at_161) rfl (l' := #[.val (.int p1), .val (.int p2), .val (.int p3), .val (.ref r_186), .val (.ref r_188), .val (.ref b190), .val (.int (1 : Int32)), .val (.int gv138), .val (.int lv138), .val (.int (1 : Int32)), .unset]) rfl ?_
                  show Steps p.tables e below (T213.setTop (mkF m 163 #[.val (.int p1), .val (.int p2), .val (.int p3), .val (.ref r_186), .val (.ref r_188), .val (.ref b190), .val (.int (1 : Int32)), .val (.int gv138), .val (.int lv138), .val (.int (1 : Int32)), .unset] [])) t
                  refine XS.goto X213.here hx rfl (pc0 := 163) (pc' := 169) rfl (hb hby at_163) (by decide) (by decide) ?_
                  exact k
                exact J198 _ _ _ _ _ _ (1 : Int32) gv138 lv138 tv138 db138 hsE SI W0 hZ hown (ownWider X213 (by decide) (by decide)) Kq213 NF Z0 OLD E_r_186 F_r_186_coder F_r_186_value V_ta_186 E_r_188 F_r_188_coder F_r_188_value V_ta_188 JK E_b190 F_b190_internalParameterEntity F_b190_internalGeneralEntity F_b190_attributeList F_b190_documentTypeDeclaration F_b190_declaringBytes F_b190_bytes F_b190_stretch F_b190_started 
              · skip
                refine WP.st (T' := Tj197) (f' := (mkF m 149 #[.val (.int p1), .val (.int p2), .val (.int p3), .val (.ref r_186), .val (.ref r_188), .val (.ref b190), .val (.int pv138), .val (.int gv138), .val (.int lv138), .val (.int (1 : Int32)), .unset] [(.ref r_188), (.ref b190)])) (fun t k => ?_) ?_
                · refine XS.aload X197.here hx rfl (hb hby at_145) rfl rfl ?_
                  show Steps p.tables e below (Tj197.setTop (mkF m 147 #[.val (.int p1), .val (.int p2), .val (.int p3), .val (.ref r_186), .val (.ref r_188), .val (.ref b190), .val (.int pv138), .val (.int gv138), .val (.int lv138), .val (.int (1 : Int32)), .unset] [(.ref b190)])) t
                  refine XS.aload X197.here hx rfl (hb hby at_147) rfl rfl ?_
                  exact k
                subst hsE
                obtain ⟨cq215, kq215, q215a, q215b, q215c⟩ := isOf hZ ej197 E_b190
                obtain ⟨_, _, ⟨T215, L215, k215, n215⟩, -, X215, SJ215, gr215, ⟨Lc215, hQ215, l215, y215, z215⟩, st215⟩ := X197.virtualBackS hx (y := (⟨"com/example/skope/skope/xml/Intake", "addInternalEntity", "(Ljava/lang/String;)V"⟩ : MethodName)) (z := (⟨"com/example/skope/skope/xml/Intake", "addInternalEntity", "(Ljava/lang/String;)V"⟩ : MethodName)) hown (mvT hZ (w_58 hw)) (mvT hZ (w_59 hw)) (notFace_of_selects (args := #[]) (mvT hZ (w_61 hw))) (mvT hZ (w_61 hw)) (mvT hZ (w_60 hw)) (by decide) (own_backOfJ (J := own_POK Z hj197) (W := 0) (rm10n l Z a0 hw [] b190 r_188 pv138 gv138 lv138 tv138 db138 (0 : Int64) (0 : Int64) (0 : Int32) ta_188 kb_188 cs_188 gC hj197 n0 Z0 E_b190 g_b190 F_b190_internalParameterEntity F_b190_internalGeneralEntity F_b190_attributeList F_b190_documentTypeDeclaration F_b190_declaringBytes F_b190_bytes F_b190_stretch F_b190_started E_r_188 F_r_188_value F_r_188_coder V_ta_188 (hcs_188 : ∀ c ∈ cs_188, own_byte c) (hcl_188 : cs_188.length ≤ 2) OLD (O2 : Sta Z Z.heap "java/lang/String" "COMPACT_STRINGS" "Z" (.int gC)) (hz : ¬ gC = (0 : Int32)) (hCHP : Jvm.Lit.constHeld Z "com/example/skope/skope/xml/Intake" 64) (hCW : Jvm.Lit.compactW.before a0 Z = true) hc210) hZ (fun _ q => own_POK.mv (s := s0.setVm vmw) JK q) (w_62 hw) (w_39 hw) (by decide) (by decide)) q215a q215c (g := (mkF m 149 #[.val (.int p1), .val (.int p2), .val (.int p3), .val (.ref r_186), .val (.ref r_188), .val (.ref b190), .val (.int pv138), .val (.int gv138), .val (.int lv138), .val (.int (1 : Int32)), .unset] [(.ref r_188), (.ref b190)])) rfl (by rw [hml]; rfl) (Steps.refl _) (argsL := [(.ref r_188)]) (rest := []) (lenOf pd_15 rfl) rfl (by show 2 * 0 + _ ≤ _; exact Nat.le_of_eq rfl) (hb hby at_149) (fun _ _ => ⟨rfl, ej197, (by decide : 12 + 2 ≤ _), (by decide : 39 + 8 ≤ _)⟩)
                dsimp only [Pt.U, Pt.locs, Pt.cells, Pt.slots] at X215 l215 y215 z215 st215 hQ215 SJ215 gr215
                subst l215 y215 z215
                have SI215 := foldS SI (T := Tj197) (Nat.le_trans W0 (Nat.le_of_eq (by rw [ej197]))) SJ215 gr215
                have hZ215 := State.Warmed39.trans (t := s0.setVm vmw) hZ SJ215.1
                have hown215 : T215.vm.findClass "com/example/skope/skope/xml/IntakeReplacedUncountedPinLaw" = some m.cls := by rw [SJ215.1.alike.findClass]; exact hown
                obtain ⟨rfl, Nq215, Kq215, nF215_b190_internalParameterEntity, nF215_b190_internalGeneralEntity, nF215_b190_attributeList, nF215_b190_documentTypeDeclaration, nF215_b190_declaringBytes, nF215_b190_bytes, nF215_b190_stretch, nF215_b190_started, nJ215⟩ := hQ215
                replace NF := Fr.app NF Nq215
                clear Nq215
                refine WP.tr st215 ?_
                clear st215
                obtain ⟨h215, e215⟩ : ∃ h, T215.heap = h := ⟨_, rfl⟩
                clear JK
                rw [e215] at Kq215 nF215_b190_internalParameterEntity nF215_b190_internalGeneralEntity nF215_b190_attributeList nF215_b190_documentTypeDeclaration nF215_b190_declaringBytes nF215_b190_bytes nF215_b190_stretch nF215_b190_started nJ215
                replace OLD := OLD.keep Kq215 (allS g_b190 all0)
                replace E_r_186 := E_r_186.keep Kq215
                replace F_r_186_coder := F_r_186_coder.keep Kq215 (by exact ninS ne_r_186_b190 (nin0))
                replace F_r_186_value := F_r_186_value.keep Kq215 (by exact ninS ne_r_186_b190 (nin0))
                replace V_ta_186 := V_ta_186.keep Kq215 (by exact ninS ne_ta_186_b190 (nin0))
                replace E_r_188 := E_r_188.keep Kq215
                replace F_r_188_coder := F_r_188_coder.keep Kq215 (by exact ninS ne_r_188_b190 (nin0))
                replace F_r_188_value := F_r_188_value.keep Kq215 (by exact ninS ne_r_188_b190 (nin0))
                replace V_ta_188 := V_ta_188.keep Kq215 (by exact ninS ne_ta_188_b190 (nin0))
                replace E_b190 := E_b190.keep Kq215
                clear F_b190_internalParameterEntity
                clear F_b190_internalGeneralEntity
                clear F_b190_attributeList
                clear F_b190_documentTypeDeclaration
                clear F_b190_declaringBytes
                clear F_b190_bytes
                clear F_b190_stretch
                clear F_b190_started
                replace Z0 := Nat.le_trans Z0 Kq215.1
                replace W0 := Nat.le_trans W0 Kq215.1
                clear Kq215
                have F_b190_internalParameterEntity := nF215_b190_internalParameterEntity
                clear nF215_b190_internalParameterEntity
                have F_b190_internalGeneralEntity := nF215_b190_internalGeneralEntity
                clear nF215_b190_internalGeneralEntity
                have F_b190_attributeList := nF215_b190_attributeList
                clear nF215_b190_attributeList
                have F_b190_documentTypeDeclaration := nF215_b190_documentTypeDeclaration
                clear nF215_b190_documentTypeDeclaration
                have F_b190_declaringBytes := nF215_b190_declaringBytes
                clear nF215_b190_declaringBytes
                have F_b190_bytes := nF215_b190_bytes
                clear nF215_b190_bytes
                have F_b190_stretch := nF215_b190_stretch
                clear nF215_b190_stretch
                have F_b190_started := nF215_b190_started
                clear nF215_b190_started
                clear W0
                have W0 : T215.heap.size ≤ h215.size := Nat.le_of_eq (by rw [e215])
                clear hZ hown SI
                obtain ⟨vmw, hvw⟩ : ∃ z, z = T215.vm := ⟨_, rfl⟩
                replace hZ215 : Z.Warmed39 vmw := by rw [hvw]; exact hZ215
                replace hown215 : vmw.findClass "com/example/skope/skope/xml/IntakeReplacedUncountedPinLaw" = some m.cls := by rw [hvw]; exact hown215
                have SI := SI215
                clear SI215
                rw [← hvw] at SI
                have JK : own_POK Z h215 vmw := by rw [hvw]; exact nJ215
                clear nJ215
                obtain ⟨s, hsE⟩ : ∃ z, z = s0.setVm vmw := ⟨_, rfl⟩
                have hX : ∃ LL, Stand p l e room_1 s m #[(.int p1), (.int p2), (.int p3)] below meth c T215 LL 14 47 ∧ Fr n0 LL := ⟨_, (by rw [hsE, hvw]; exact X215), NF⟩
                clear X215 NF
                obtain ⟨LL215, X215, NF⟩ := hX
                clear hvw
                have hZ : Z.Warmed39 s.vm := by rw [hsE]; exact hZ215
                have hown : s.vm.findClass "com/example/skope/skope/xml/IntakeReplacedUncountedPinLaw" = some m.cls := by rw [hsE]; exact hown215
                clear hZ215 hown215
                have hXN : ∃ LL, Stand p l e room_1 s m #[(.int p1), (.int p2), (.int p3)] below meth c T215 LL 14 47 ∧ Fr n0 LL := ⟨_, X215, NF⟩
                clear X215 NF
                obtain ⟨LL216, X215, NF⟩ := hXN
                show WP p.tables e below _ T215 (mkF m 152 #[.val (.int p1), .val (.int p2), .val (.int p3), .val (.ref r_186), .val (.ref r_188), .val (.ref b190), .val (.int pv138), .val (.int gv138), .val (.int lv138), .val (.int (1 : Int32)), .unset] [])
                refine WP.st (T' := T215) (f' := (mkF m 154 #[.val (.int p1), .val (.int p2), .val (.int p3), .val (.ref r_186), .val (.ref r_188), .val (.ref b190), .val (.int pv138), .val (.int gv138), .val (.int lv138), .val (.int (1 : Int32)), .unset] [(.ref r_188)])) (fun t k => ?_) ?_
                · refine XS.aload X215.here hx rfl (hb hby at_152) rfl rfl ?_
                  exact k
                obtain ⟨_, _, ⟨T217, L217, k217, n217⟩, -, X217, ⟨Lc217, hQ217, l217, y217, z217⟩, st217⟩ := Jvm.LawKit.callS X215 hx (y := (⟨"com/example/skope/skope/xml/IntakeReplacedUncountedPinLaw", "isParam", "(Ljava/lang/String;)Z"⟩ : MethodName)) hown (mvT hZ (w_84 hw)) (mvT hZ (w_85 hw)) (mvT hZ (w_2 hw)) (mvT hZ (w_86 hw)) (by decide) (backOf (W := 0) (rm15 l Z a0 hw [] r_188 ta_188 kb_188 cs_188 gC gF h215 n0 Z0 E_r_188 F_r_188_value F_r_188_coder V_ta_188 (hcs_188 : ∀ c ∈ cs_188, own_byte c) (hcl_188 : cs_188.length ≤ 2) OLD (O2 : Sta Z Z.heap "java/lang/String" "COMPACT_STRINGS" "Z" (.int gC)) (hz : ¬ gC = (0 : Int32)) (O4 : Sta Z Z.heap "jdk/internal/util/Preconditions" "SIOOBE_FORMATTER" "Ljava/util/function/BiFunction;" gF) (rf : gF.isRef = true)) hZ (w_86 hw) (w_2 hw) (by decide) (by decide)) (g := (mkF m 154 #[.val (.int p1), .val (.int p2), .val (.int p3), .val (.ref r_186), .val (.ref r_188), .val (.ref b190), .val (.int pv138), .val (.int gv138), .val (.int lv138), .val (.int (1 : Int32)), .unset] [(.ref r_188)])) rfl (by rw [hml]; rfl) (argsL := [(.ref r_188)]) (rest := []) (lenOf pd_11 rfl) rfl (by show 2 * 0 + _ ≤ _; exact Nat.le_of_eq rfl) (hb hby at_154) (fun _ _ => ⟨rfl, e215, (by decide : 14 + 0 ≤ _), (by decide : 47 + 0 ≤ _)⟩)
                dsimp only [Pt.U, Pt.locs, Pt.cells, Pt.slots] at X217 l217 y217 z217 st217 hQ217
                subst l217 y217 z217
                obtain ⟨rfl, Nq217, Kq217⟩ := hQ217
                replace NF := Fr.app NF Nq217
                clear Nq217
                refine WP.st st217 ?_
                clear st217
                replace Kq217 := Kq217.trans (rfl : h215 = h215)
                have hXN : ∃ LL, Stand p l e room_1 s m #[(.int p1), (.int p2), (.int p3)] below meth c T217 LL 14 47 ∧ Fr n0 LL := ⟨_, X217, NF⟩
                clear X217 NF
                obtain ⟨LL218, X217, NF⟩ := hXN
                show WP p.tables e below _ T217 (mkF m 157 #[.val (.int p1), .val (.int p2), .val (.int p3), .val (.ref r_186), .val (.ref r_188), .val (.ref b190), .val (.int pv138), .val (.int gv138), .val (.int lv138), .val (.int (1 : Int32)), .unset] [(.int (own_isP cs_188))])
                rw [show (own_isP cs_188) = (0 : Int32) from own_isP_n hc210]
                show WP p.tables e below _ T217 (mkF m 157 #[.val (.int p1), .val (.int p2), .val (.int p3), .val (.ref r_186), .val (.ref r_188), .val (.ref b190), .val (.int pv138), .val (.int gv138), .val (.int lv138), .val (.int (1 : Int32)), .unset] [(.int (0 : Int32))])
                refine WP.st (T' := T217) (f' := (mkF m 169 #[.val (.int p1), .val (.int p2), .val (.int p3), .val (.ref r_186), .val (.ref r_188), .val (.ref b190), .val (.int pv138), .val (.int (1 : Int32)), .val (.int lv138), .val (.int (1 : Int32)), .unset] [])) (fun t k => ?_) ?_
                · refine XS.ifYes X217.here hx rfl (pc0 := 157) (pc' := 166) rfl (hb hby at_157) rfl ((if0 _ _).trans (teq (by decide : (0 : Int32) = (0 : Int32))).1) (by decide) (by decide) ?_
                  show Steps p.tables e below (T217.setTop (mkF m 166 #[.val (.int p1), .val (.int p2), .val (.int p3), .val (.ref r_186), .val (.ref r_188), .val (.ref b190), .val (.int pv138), .val (.int gv138), .val (.int lv138), .val (.int (1 : Int32)), .unset] [])) t
                  refine XS.iconst X217.here hx rfl (hb hby at_166) ?_
                  show Steps p.tables e below (T217.setTop (mkF m 167 #[.val (.int p1), .val (.int p2), .val (.int p3), .val (.ref r_186), .val (.ref r_188), .val (.ref b190), .val (.int pv138), .val (.int gv138), .val (.int lv138), .val (.int (1 : Int32)), .unset] [(.int (1 : Int32))])) t
                  refine XS.istore X217.here hx rfl (hb hby at_167) rfl (l' := #[.val (.int p1), .val (.int p2), .val (.int p3), .val (.ref r_186), .val (.ref r_188), .val (.ref b190), .val (.int pv138), .val (.int (1 : Int32)), .val (.int lv138), .val (.int (1 : Int32)), .unset]) rfl ?_
                  exact k
                exact J198 _ _ _ _ _ _ pv138 (1 : Int32) lv138 tv138 db138 hsE SI W0 hZ hown (ownWider X217 (by decide) (by decide)) Kq217 NF Z0 OLD E_r_186 F_r_186_coder F_r_186_value V_ta_186 E_r_188 F_r_188_coder F_r_188_value V_ta_188 JK E_b190 F_b190_internalParameterEntity F_b190_internalGeneralEntity F_b190_attributeList F_b190_documentTypeDeclaration F_b190_declaringBytes F_b190_bytes F_b190_stretch F_b190_started 
          refine WP.st (T' := Tj196) (f' := (mkF m 121 #[.val (.int p1), .val (.int p2), .val (.int p3), .val (.ref r_186), .val (.ref r_188), .val (.ref b190), .val (.int pv83), .val (.int gv83), .val (.int lv83), .val (.int (1 : Int32)), .unset] [(.int (p1 &&& (4 : Int32)))])) (fun t k => ?_) ?_
          · refine XS.iloadN X196.here hx rfl (hb hby at_118) rfl ?_
            show Steps p.tables e below (Tj196.setTop (mkF m 119 #[.val (.int p1), .val (.int p2), .val (.int p3), .val (.ref r_186), .val (.ref r_188), .val (.ref b190), .val (.int pv83), .val (.int gv83), .val (.int lv83), .val (.int (1 : Int32)), .unset] [(.int p1)])) t
            refine XS.iconst X196.here hx rfl (hb hby at_119) ?_
            show Steps p.tables e below (Tj196.setTop (mkF m 120 #[.val (.int p1), .val (.int p2), .val (.int p3), .val (.ref r_186), .val (.ref r_188), .val (.ref b190), .val (.int pv83), .val (.int gv83), .val (.int lv83), .val (.int (1 : Int32)), .unset] [(.int (4 : Int32)), (.int p1)])) t
            refine XS.iand X196.here hx rfl (hb hby at_120) rfl ?_
            exact k
          by_cases hc219 : (p1 &&& (4 : Int32)) = (0 : Int32)
          · skip
            refine WP.st (T' := Tj196) (f' := (mkF m 138 #[.val (.int p1), .val (.int p2), .val (.int p3), .val (.ref r_186), .val (.ref r_188), .val (.ref b190), .val (.int pv83), .val (.int gv83), .val (.int lv83), .val (.int (1 : Int32)), .unset] [])) (fun t k => ?_) ?_
            · refine XS.ifYes X196.here hx rfl (pc0 := 121) (pc' := 138) rfl (hb hby at_121) rfl ((if0 _ _).trans (teq hc219).1) (by decide) (by decide) ?_
              exact k
            exact J197 _ _ _ _ _ _ pv83 gv83 lv83 tv83 db83 hsE SI W0 hZ hown (ownWider X196 (by decide) (by decide)) ej196 NF Z0 OLD E_r_186 F_r_186_coder F_r_186_value V_ta_186 E_r_188 F_r_188_coder F_r_188_value V_ta_188 JK E_b190 F_b190_internalParameterEntity F_b190_internalGeneralEntity F_b190_attributeList F_b190_documentTypeDeclaration F_b190_declaringBytes F_b190_bytes F_b190_stretch F_b190_started 
          · skip
            refine WP.st (T' := Tj196) (f' := (mkF m 126 #[.val (.int p1), .val (.int p2), .val (.int p3), .val (.ref r_186), .val (.ref r_188), .val (.ref b190), .val (.int pv83), .val (.int gv83), .val (.int lv83), .val (.int (1 : Int32)), .unset] [(.ref b190)])) (fun t k => ?_) ?_
            · refine XS.ifNo X196.here hx rfl (hb hby at_121) rfl ((if0 _ _).trans (feq hc219).1) ?_
              show Steps p.tables e below (Tj196.setTop (mkF m 124 #[.val (.int p1), .val (.int p2), .val (.int p3), .val (.ref r_186), .val (.ref r_188), .val (.ref b190), .val (.int pv83), .val (.int gv83), .val (.int lv83), .val (.int (1 : Int32)), .unset] [])) t
              refine XS.aload X196.here hx rfl (hb hby at_124) rfl rfl ?_
              exact k
            obtain ⟨cq220, kq220, q220a, q220b, q220c⟩ := isOf hZ ej196 E_b190
            obtain ⟨_, _, ⟨T220, L220, k220, n220⟩, -, X220, ⟨Lc220, hQ220, l220, y220, z220⟩, st220⟩ := X196.virtualBack hx (y := (⟨"com/example/skope/skope/xml/Intake", "clear", "()V"⟩ : MethodName)) (z := (⟨"com/example/skope/skope/xml/Intake", "clear", "()V"⟩ : MethodName)) hown (mvT hZ (w_97 hw)) (mvT hZ (w_98 hw)) (notFace_of_selects (args := #[]) (mvT hZ (w_100 hw))) (mvT hZ (w_100 hw)) (mvT hZ (w_99 hw)) (by decide) (backOf (W := 0) (rm17 l Z a0 hw [] b190 pv83 gv83 lv83 tv83 db83 (0 : Int64) (0 : Int64) (0 : Int32) hj195 n0 Z0 E_b190 g_b190 F_b190_internalParameterEntity F_b190_internalGeneralEntity F_b190_attributeList F_b190_documentTypeDeclaration F_b190_declaringBytes F_b190_bytes F_b190_stretch F_b190_started) hZ (w_101 hw) (w_39 hw) (by decide) (by decide)) q220a q220c (g := (mkF m 126 #[.val (.int p1), .val (.int p2), .val (.int p3), .val (.ref r_186), .val (.ref r_188), .val (.ref b190), .val (.int pv83), .val (.int gv83), .val (.int lv83), .val (.int (1 : Int32)), .unset] [(.ref b190)])) rfl (by rw [hml]; rfl) (Steps.refl _) (argsL := []) (rest := []) (lenOf pd_13 rfl) rfl (by show 2 * 0 + _ ≤ _; exact Nat.le_of_eq rfl) (hb hby at_126) (fun _ _ => ⟨rfl, ej196, (by decide : 12 + 0 ≤ _), (by decide : 39 + 0 ≤ _)⟩)
            dsimp only [Pt.U, Pt.locs, Pt.cells, Pt.slots] at X220 l220 y220 z220 st220 hQ220
            subst l220 y220 z220
            obtain ⟨rfl, Nq220, Kq220, nF220_b190_internalParameterEntity, nF220_b190_internalGeneralEntity, nF220_b190_attributeList, nF220_b190_documentTypeDeclaration, nF220_b190_declaringBytes, nF220_b190_bytes, nF220_b190_stretch, nF220_b190_started⟩ := hQ220
            replace NF := Fr.app NF Nq220
            clear Nq220
            refine WP.tr st220 ?_
            clear st220
            obtain ⟨h220, e220⟩ : ∃ h, T220.heap = h := ⟨_, rfl⟩
            rw [e220] at Kq220 nF220_b190_internalParameterEntity nF220_b190_internalGeneralEntity nF220_b190_attributeList nF220_b190_documentTypeDeclaration nF220_b190_declaringBytes nF220_b190_bytes nF220_b190_stretch nF220_b190_started
            replace JK := own_POK.keep JK Kq220 E_b190 (by decide) (w_38 hw)
            replace OLD := OLD.keep Kq220 (allS g_b190 all0)
            replace E_r_186 := E_r_186.keep Kq220
            replace F_r_186_coder := F_r_186_coder.keep Kq220 (by exact ninS ne_r_186_b190 (nin0))
            replace F_r_186_value := F_r_186_value.keep Kq220 (by exact ninS ne_r_186_b190 (nin0))
            replace V_ta_186 := V_ta_186.keep Kq220 (by exact ninS ne_ta_186_b190 (nin0))
            replace E_r_188 := E_r_188.keep Kq220
            replace F_r_188_coder := F_r_188_coder.keep Kq220 (by exact ninS ne_r_188_b190 (nin0))
            replace F_r_188_value := F_r_188_value.keep Kq220 (by exact ninS ne_r_188_b190 (nin0))
            replace V_ta_188 := V_ta_188.keep Kq220 (by exact ninS ne_ta_188_b190 (nin0))
            replace E_b190 := E_b190.keep Kq220
            clear F_b190_internalParameterEntity
            clear F_b190_internalGeneralEntity
            clear F_b190_attributeList
            clear F_b190_documentTypeDeclaration
            clear F_b190_declaringBytes
            clear F_b190_bytes
            clear F_b190_stretch
            clear F_b190_started
            replace Z0 := Nat.le_trans Z0 Kq220.1
            replace W0 := Nat.le_trans W0 Kq220.1
            clear Kq220
            have F_b190_internalParameterEntity := nF220_b190_internalParameterEntity
            clear nF220_b190_internalParameterEntity
            have F_b190_internalGeneralEntity := nF220_b190_internalGeneralEntity
            clear nF220_b190_internalGeneralEntity
            have F_b190_attributeList := nF220_b190_attributeList
            clear nF220_b190_attributeList
            have F_b190_documentTypeDeclaration := nF220_b190_documentTypeDeclaration
            clear nF220_b190_documentTypeDeclaration
            have F_b190_declaringBytes := nF220_b190_declaringBytes
            clear nF220_b190_declaringBytes
            have F_b190_bytes := nF220_b190_bytes
            clear nF220_b190_bytes
            have F_b190_stretch := nF220_b190_stretch
            clear nF220_b190_stretch
            have F_b190_started := nF220_b190_started
            clear nF220_b190_started
            have hXN : ∃ LL, Stand p l e room_1 s m #[(.int p1), (.int p2), (.int p3)] below meth c T220 LL 12 39 ∧ Fr n0 LL := ⟨_, X220, NF⟩
            clear X220 NF
            obtain ⟨LL221, X220, NF⟩ := hXN
            show WP p.tables e below _ T220 (mkF m 129 #[.val (.int p1), .val (.int p2), .val (.int p3), .val (.ref r_186), .val (.ref r_188), .val (.ref b190), .val (.int pv83), .val (.int gv83), .val (.int lv83), .val (.int (1 : Int32)), .unset] [])
            refine WP.st (T' := T220) (f' := (mkF m 138 #[.val (.int p1), .val (.int p2), .val (.int p3), .val (.ref r_186), .val (.ref r_188), .val (.ref b190), .val (.int (0 : Int32)), .val (.int (0 : Int32)), .val (.int (0 : Int32)), .val (.int (1 : Int32)), .unset] [])) (fun t k => ?_) ?_
            · refine XS.iconst X220.here hx rfl (hb hby at_129) ?_
              show Steps p.tables e below (T220.setTop (mkF m 130 #[.val (.int p1), .val (.int p2), .val (.int p3), .val (.ref r_186), .val (.ref r_188), .val (.ref b190), .val (.int pv83), .val (.int gv83), .val (.int lv83), .val (.int (1 : Int32)), .unset] [(.int (0 : Int32))])) t
              refine XS.istore X220.here hx rfl (hb hby at_130) rfl (l' := #[.val (.int p1), .val (.int p2), .val (.int p3), .val (.ref r_186), .val (.ref r_188), .val (.ref b190), .val (.int (0 : Int32)), .val (.int gv83), .val (.int lv83), .val (.int (1 : Int32)), .unset]) rfl ?_
              show Steps p.tables e below (T220.setTop (mkF m 132 #[.val (.int p1), .val (.int p2), .val (.int p3), .val (.ref r_186), .val (.ref r_188), .val (.ref b190), .val (.int (0 : Int32)), .val (.int gv83), .val (.int lv83), .val (.int (1 : Int32)), .unset] [])) t
              refine XS.iconst X220.here hx rfl (hb hby at_132) ?_
              show Steps p.tables e below (T220.setTop (mkF m 133 #[.val (.int p1), .val (.int p2), .val (.int p3), .val (.ref r_186), .val (.ref r_188), .val (.ref b190), .val (.int (0 : Int32)), .val (.int gv83), .val (.int lv83), .val (.int (1 : Int32)), .unset] [(.int (0 : Int32))])) t
              refine XS.istore X220.here hx rfl (hb hby at_133) rfl (l' := #[.val (.int p1), .val (.int p2), .val (.int p3), .val (.ref r_186), .val (.ref r_188), .val (.ref b190), .val (.int (0 : Int32)), .val (.int (0 : Int32)), .val (.int lv83), .val (.int (1 : Int32)), .unset]) rfl ?_
              show Steps p.tables e below (T220.setTop (mkF m 135 #[.val (.int p1), .val (.int p2), .val (.int p3), .val (.ref r_186), .val (.ref r_188), .val (.ref b190), .val (.int (0 : Int32)), .val (.int (0 : Int32)), .val (.int lv83), .val (.int (1 : Int32)), .unset] [])) t
              refine XS.iconst X220.here hx rfl (hb hby at_135) ?_
              show Steps p.tables e below (T220.setTop (mkF m 136 #[.val (.int p1), .val (.int p2), .val (.int p3), .val (.ref r_186), .val (.ref r_188), .val (.ref b190), .val (.int (0 : Int32)), .val (.int (0 : Int32)), .val (.int lv83), .val (.int (1 : Int32)), .unset] [(.int (0 : Int32))])) t
              refine XS.istore X220.here hx rfl (hb hby at_136) rfl (l' := #[.val (.int p1), .val (.int p2), .val (.int p3), .val (.ref r_186), .val (.ref r_188), .val (.ref b190), .val (.int (0 : Int32)), .val (.int (0 : Int32)), .val (.int (0 : Int32)), .val (.int (1 : Int32)), .unset]) rfl ?_
              exact k
            exact J197 _ _ _ _ _ _ (0 : Int32) (0 : Int32) (0 : Int32) (0 : Int32) (if tv83 = (0 : Int32) then db83 else (db83 + (0 : Int64))) hsE SI W0 hZ hown (ownWider X220 (by decide) (by decide)) e220 NF Z0 OLD E_r_186 F_r_186_coder F_r_186_value V_ta_186 E_r_188 F_r_188_coder F_r_188_value V_ta_188 JK E_b190 F_b190_internalParameterEntity F_b190_internalGeneralEntity F_b190_attributeList F_b190_documentTypeDeclaration F_b190_declaringBytes F_b190_bytes F_b190_stretch F_b190_started 
        refine WP.st (T' := Tj195) (f' := (mkF m 85 #[.val (.int p1), .val (.int p2), .val (.int p3), .val (.ref r_186), .val (.ref r_188), .val (.ref b190), .val (.int pv83), .val (.int gv83), .val (.int lv83), .unset, .unset] [(.ref b190)])) (fun t k => ?_) ?_
        · refine XS.aload X195.here hx rfl (hb hby at_83) rfl rfl ?_
          exact k
        obtain ⟨cq222, kq222, q222a, q222b, q222c⟩ := isOf hZ ej195 E_b190
        obtain ⟨_, _, ⟨T222, L222, k222, n222⟩, -, X222, ⟨Lc222, hQ222, l222, y222, z222⟩, st222⟩ := X195.virtualBack hx (y := (⟨"com/example/skope/skope/xml/Intake", "replacedUncounted", "()Z"⟩ : MethodName)) (z := (⟨"com/example/skope/skope/xml/Intake", "replacedUncounted", "()Z"⟩ : MethodName)) hown (mvT hZ (w_49 hw)) (mvT hZ (w_50 hw)) (notFace_of_selects (args := #[]) (mvT hZ (w_52 hw))) (mvT hZ (w_52 hw)) (mvT hZ (w_51 hw)) (by decide) (backOf (W := 0) (rm9 l Z a0 hw [] b190 pv83 gv83 lv83 hj195 n0 Z0 F_b190_internalParameterEntity F_b190_internalGeneralEntity F_b190_attributeList) hZ (w_53 hw) (w_39 hw) (by decide) (by decide)) q222a q222c (g := (mkF m 85 #[.val (.int p1), .val (.int p2), .val (.int p3), .val (.ref r_186), .val (.ref r_188), .val (.ref b190), .val (.int pv83), .val (.int gv83), .val (.int lv83), .unset, .unset] [(.ref b190)])) rfl (by rw [hml]; rfl) (Steps.refl _) (argsL := []) (rest := []) (lenOf pd_14 rfl) rfl (by show 2 * 0 + _ ≤ _; exact Nat.le_of_eq rfl) (hb hby at_85) (fun _ _ => ⟨rfl, ej195, (by decide : 12 + 0 ≤ _), (by decide : 39 + 0 ≤ _)⟩)
        dsimp only [Pt.U, Pt.locs, Pt.cells, Pt.slots] at X222 l222 y222 z222 st222 hQ222
        subst l222 y222 z222
        obtain ⟨rfl, Nq222, Kq222⟩ := hQ222
        replace NF := Fr.app NF Nq222
        clear Nq222
        refine WP.tr st222 ?_
        clear st222
        replace Kq222 := Kq222.trans (rfl : hj195 = hj195)
        have hXN : ∃ LL, Stand p l e room_1 s m #[(.int p1), (.int p2), (.int p3)] below meth c T222 LL 12 39 ∧ Fr n0 LL := ⟨_, X222, NF⟩
        clear X222 NF
        obtain ⟨LL223, X222, NF⟩ := hXN
        show WP p.tables e below _ T222 (mkF m 88 #[.val (.int p1), .val (.int p2), .val (.int p3), .val (.ref r_186), .val (.ref r_188), .val (.ref b190), .val (.int pv83), .val (.int gv83), .val (.int lv83), .unset, .unset] [(.int (own_ru pv83 gv83 lv83))])
        by_cases hc224 : pv83 = (0 : Int32)
        · skip
          by_cases hc225 : gv83 = (0 : Int32)
          · skip
            rw [show (own_ru pv83 gv83 lv83) = (0 : Int32) from by simp [own_ru, hc224, hc225]]
            show WP p.tables e below _ T222 (mkF m 88 #[.val (.int p1), .val (.int p2), .val (.int p3), .val (.ref r_186), .val (.ref r_188), .val (.ref b190), .val (.int pv83), .val (.int gv83), .val (.int lv83), .unset, .unset] [(.int (0 : Int32))])
            refine WP.st (T' := T222) (f' := (mkF m 118 #[.val (.int p1), .val (.int p2), .val (.int p3), .val (.ref r_186), .val (.ref r_188), .val (.ref b190), .val (.int pv83), .val (.int gv83), .val (.int lv83), .val (.int (1 : Int32)), .unset] [])) (fun t k => ?_) ?_
            · refine XS.iload X222.here hx rfl (hb hby at_88) rfl ?_
              show Steps p.tables e below (T222.setTop (mkF m 90 #[.val (.int p1), .val (.int p2), .val (.int p3), .val (.ref r_186), .val (.ref r_188), .val (.ref b190), .val (.int pv83), .val (.int gv83), .val (.int lv83), .unset, .unset] [(.int pv83), (.int (0 : Int32))])) t
              refine XS.ifNo X222.here hx rfl (hb hby at_90) rfl ((if0 _ _).trans (teq hc224).2) ?_
              show Steps p.tables e below (T222.setTop (mkF m 93 #[.val (.int p1), .val (.int p2), .val (.int p3), .val (.ref r_186), .val (.ref r_188), .val (.ref b190), .val (.int pv83), .val (.int gv83), .val (.int lv83), .unset, .unset] [(.int (0 : Int32))])) t
              refine XS.iload X222.here hx rfl (hb hby at_93) rfl ?_
              show Steps p.tables e below (T222.setTop (mkF m 95 #[.val (.int p1), .val (.int p2), .val (.int p3), .val (.ref r_186), .val (.ref r_188), .val (.ref b190), .val (.int pv83), .val (.int gv83), .val (.int lv83), .unset, .unset] [(.int gv83), (.int (0 : Int32))])) t
              refine XS.ifYes X222.here hx rfl (pc0 := 95) (pc' := 107) rfl (hb hby at_95) rfl ((if0 _ _).trans (teq hc225).1) (by decide) (by decide) ?_
              show Steps p.tables e below (T222.setTop (mkF m 107 #[.val (.int p1), .val (.int p2), .val (.int p3), .val (.ref r_186), .val (.ref r_188), .val (.ref b190), .val (.int pv83), .val (.int gv83), .val (.int lv83), .unset, .unset] [(.int (0 : Int32))])) t
              refine XS.iconst X222.here hx rfl (hb hby at_107) ?_
              show Steps p.tables e below (T222.setTop (mkF m 108 #[.val (.int p1), .val (.int p2), .val (.int p3), .val (.ref r_186), .val (.ref r_188), .val (.ref b190), .val (.int pv83), .val (.int gv83), .val (.int lv83), .unset, .unset] [(.int (0 : Int32)), (.int (0 : Int32))])) t
              refine XS.icmpNo X222.here hx rfl (hb hby at_108) rfl (teq (by decide : (0 : Int32) = (0 : Int32))).2 ?_
              show Steps p.tables e below (T222.setTop (mkF m 111 #[.val (.int p1), .val (.int p2), .val (.int p3), .val (.ref r_186), .val (.ref r_188), .val (.ref b190), .val (.int pv83), .val (.int gv83), .val (.int lv83), .unset, .unset] [])) t
              refine XS.iconst X222.here hx rfl (hb hby at_111) ?_
              show Steps p.tables e below (T222.setTop (mkF m 112 #[.val (.int p1), .val (.int p2), .val (.int p3), .val (.ref r_186), .val (.ref r_188), .val (.ref b190), .val (.int pv83), .val (.int gv83), .val (.int lv83), .unset, .unset] [(.int (1 : Int32))])) t
              refine XS.goto X222.here hx rfl (pc0 := 112) (pc' := 116) rfl (hb hby at_112) (by decide) (by decide) ?_
              show Steps p.tables e below (T222.setTop (mkF m 116 #[.val (.int p1), .val (.int p2), .val (.int p3), .val (.ref r_186), .val (.ref r_188), .val (.ref b190), .val (.int pv83), .val (.int gv83), .val (.int lv83), .unset, .unset] [(.int (1 : Int32))])) t
              refine XS.istore X222.here hx rfl (hb hby at_116) rfl (l' := #[.val (.int p1), .val (.int p2), .val (.int p3), .val (.ref r_186), .val (.ref r_188), .val (.ref b190), .val (.int pv83), .val (.int gv83), .val (.int lv83), .val (.int (1 : Int32)), .unset]) rfl ?_
              exact k
            exact J196 _ _   (ownWider X222 (by decide) (by decide)) Kq222 NF  
          · skip
            by_cases hc226 : lv83 = (0 : Int32)
            · skip
              rw [show (own_ru pv83 gv83 lv83) = (0 : Int32) from by simp [own_ru, hc224, hc225, hc226]]
              show WP p.tables e below _ T222 (mkF m 88 #[.val (.int p1), .val (.int p2), .val (.int p3), .val (.ref r_186), .val (.ref r_188), .val (.ref b190), .val (.int pv83), .val (.int gv83), .val (.int lv83), .unset, .unset] [(.int (0 : Int32))])
              refine WP.st (T' := T222) (f' := (mkF m 118 #[.val (.int p1), .val (.int p2), .val (.int p3), .val (.ref r_186), .val (.ref r_188), .val (.ref b190), .val (.int pv83), .val (.int gv83), .val (.int lv83), .val (.int (1 : Int32)), .unset] [])) (fun t k => ?_) ?_
              · refine XS.iload X222.here hx rfl (hb hby at_88) rfl ?_
                show Steps p.tables e below (T222.setTop (mkF m 90 #[.val (.int p1), .val (.int p2), .val (.int p3), .val (.ref r_186), .val (.ref r_188), .val (.ref b190), .val (.int pv83), .val (.int gv83), .val (.int lv83), .unset, .unset] [(.int pv83), (.int (0 : Int32))])) t
                refine XS.ifNo X222.here hx rfl (hb hby at_90) rfl ((if0 _ _).trans (teq hc224).2) ?_
                show Steps p.tables e below (T222.setTop (mkF m 93 #[.val (.int p1), .val (.int p2), .val (.int p3), .val (.ref r_186), .val (.ref r_188), .val (.ref b190), .val (.int pv83), .val (.int gv83), .val (.int lv83), .unset, .unset] [(.int (0 : Int32))])) t
                refine XS.iload X222.here hx rfl (hb hby at_93) rfl ?_
                show Steps p.tables e below (T222.setTop (mkF m 95 #[.val (.int p1), .val (.int p2), .val (.int p3), .val (.ref r_186), .val (.ref r_188), .val (.ref b190), .val (.int pv83), .val (.int gv83), .val (.int lv83), .unset, .unset] [(.int gv83), (.int (0 : Int32))])) t
                refine XS.ifNo X222.here hx rfl (hb hby at_95) rfl ((if0 _ _).trans (feq hc225).1) ?_
                show Steps p.tables e below (T222.setTop (mkF m 98 #[.val (.int p1), .val (.int p2), .val (.int p3), .val (.ref r_186), .val (.ref r_188), .val (.ref b190), .val (.int pv83), .val (.int gv83), .val (.int lv83), .unset, .unset] [(.int (0 : Int32))])) t
                refine XS.iload X222.here hx rfl (hb hby at_98) rfl ?_
                show Steps p.tables e below (T222.setTop (mkF m 100 #[.val (.int p1), .val (.int p2), .val (.int p3), .val (.ref r_186), .val (.ref r_188), .val (.ref b190), .val (.int pv83), .val (.int gv83), .val (.int lv83), .unset, .unset] [(.int lv83), (.int (0 : Int32))])) t
                refine XS.ifYes X222.here hx rfl (pc0 := 100) (pc' := 107) rfl (hb hby at_100) rfl ((if0 _ _).trans (teq hc226).1) (by decide) (by decide) ?_
                show Steps p.tables e below (T222.setTop (mkF m 107 #[.val (.int p1), .val (.int p2), .val (.int p3), .val (.ref r_186), .val (.ref r_188), .val (.ref b190), .val (.int pv83), .val (.int gv83), .val (.int lv83), .unset, .unset] [(.int (0 : Int32))])) t
                refine XS.iconst X222.here hx rfl (hb hby at_107) ?_
                show Steps p.tables e below (T222.setTop (mkF m 108 #[.val (.int p1), .val (.int p2), .val (.int p3), .val (.ref r_186), .val (.ref r_188), .val (.ref b190), .val (.int pv83), .val (.int gv83), .val (.int lv83), .unset, .unset] [(.int (0 : Int32)), (.int (0 : Int32))])) t
                refine XS.icmpNo X222.here hx rfl (hb hby at_108) rfl (teq (by decide : (0 : Int32) = (0 : Int32))).2 ?_
                show Steps p.tables e below (T222.setTop (mkF m 111 #[.val (.int p1), .val (.int p2), .val (.int p3), .val (.ref r_186), .val (.ref r_188), .val (.ref b190), .val (.int pv83), .val (.int gv83), .val (.int lv83), .unset, .unset] [])) t
                refine XS.iconst X222.here hx rfl (hb hby at_111) ?_
                show Steps p.tables e below (T222.setTop (mkF m 112 #[.val (.int p1), .val (.int p2), .val (.int p3), .val (.ref r_186), .val (.ref r_188), .val (.ref b190), .val (.int pv83), .val (.int gv83), .val (.int lv83), .unset, .unset] [(.int (1 : Int32))])) t
                refine XS.goto X222.here hx rfl (pc0 := 112) (pc' := 116) rfl (hb hby at_112) (by decide) (by decide) ?_
                show Steps p.tables e below (T222.setTop (mkF m 116 #[.val (.int p1), .val (.int p2), .val (.int p3), .val (.ref r_186), .val (.ref r_188), .val (.ref b190), .val (.int pv83), .val (.int gv83), .val (.int lv83), .unset, .unset] [(.int (1 : Int32))])) t
                refine XS.istore X222.here hx rfl (hb hby at_116) rfl (l' := #[.val (.int p1), .val (.int p2), .val (.int p3), .val (.ref r_186), .val (.ref r_188), .val (.ref b190), .val (.int pv83), .val (.int gv83), .val (.int lv83), .val (.int (1 : Int32)), .unset]) rfl ?_
                exact k
              exact J196 _ _   (ownWider X222 (by decide) (by decide)) Kq222 NF  
            · skip
              rw [show (own_ru pv83 gv83 lv83) = (1 : Int32) from by simp [own_ru, hc224, hc225, hc226]]
              show WP p.tables e below _ T222 (mkF m 88 #[.val (.int p1), .val (.int p2), .val (.int p3), .val (.ref r_186), .val (.ref r_188), .val (.ref b190), .val (.int pv83), .val (.int gv83), .val (.int lv83), .unset, .unset] [(.int (1 : Int32))])
              refine WP.st (T' := T222) (f' := (mkF m 118 #[.val (.int p1), .val (.int p2), .val (.int p3), .val (.ref r_186), .val (.ref r_188), .val (.ref b190), .val (.int pv83), .val (.int gv83), .val (.int lv83), .val (.int (1 : Int32)), .unset] [])) (fun t k => ?_) ?_
              · refine XS.iload X222.here hx rfl (hb hby at_88) rfl ?_
                show Steps p.tables e below (T222.setTop (mkF m 90 #[.val (.int p1), .val (.int p2), .val (.int p3), .val (.ref r_186), .val (.ref r_188), .val (.ref b190), .val (.int pv83), .val (.int gv83), .val (.int lv83), .unset, .unset] [(.int pv83), (.int (1 : Int32))])) t
                refine XS.ifNo X222.here hx rfl (hb hby at_90) rfl ((if0 _ _).trans (teq hc224).2) ?_
                show Steps p.tables e below (T222.setTop (mkF m 93 #[.val (.int p1), .val (.int p2), .val (.int p3), .val (.ref r_186), .val (.ref r_188), .val (.ref b190), .val (.int pv83), .val (.int gv83), .val (.int lv83), .unset, .unset] [(.int (1 : Int32))])) t
                refine XS.iload X222.here hx rfl (hb hby at_93) rfl ?_
                show Steps p.tables e below (T222.setTop (mkF m 95 #[.val (.int p1), .val (.int p2), .val (.int p3), .val (.ref r_186), .val (.ref r_188), .val (.ref b190), .val (.int pv83), .val (.int gv83), .val (.int lv83), .unset, .unset] [(.int gv83), (.int (1 : Int32))])) t
                refine XS.ifNo X222.here hx rfl (hb hby at_95) rfl ((if0 _ _).trans (feq hc225).1) ?_
                show Steps p.tables e below (T222.setTop (mkF m 98 #[.val (.int p1), .val (.int p2), .val (.int p3), .val (.ref r_186), .val (.ref r_188), .val (.ref b190), .val (.int pv83), .val (.int gv83), .val (.int lv83), .unset, .unset] [(.int (1 : Int32))])) t
                refine XS.iload X222.here hx rfl (hb hby at_98) rfl ?_
                show Steps p.tables e below (T222.setTop (mkF m 100 #[.val (.int p1), .val (.int p2), .val (.int p3), .val (.ref r_186), .val (.ref r_188), .val (.ref b190), .val (.int pv83), .val (.int gv83), .val (.int lv83), .unset, .unset] [(.int lv83), (.int (1 : Int32))])) t
                refine XS.ifNo X222.here hx rfl (hb hby at_100) rfl ((if0 _ _).trans (feq hc226).1) ?_
                show Steps p.tables e below (T222.setTop (mkF m 103 #[.val (.int p1), .val (.int p2), .val (.int p3), .val (.ref r_186), .val (.ref r_188), .val (.ref b190), .val (.int pv83), .val (.int gv83), .val (.int lv83), .unset, .unset] [(.int (1 : Int32))])) t
                refine XS.iconst X222.here hx rfl (hb hby at_103) ?_
                show Steps p.tables e below (T222.setTop (mkF m 104 #[.val (.int p1), .val (.int p2), .val (.int p3), .val (.ref r_186), .val (.ref r_188), .val (.ref b190), .val (.int pv83), .val (.int gv83), .val (.int lv83), .unset, .unset] [(.int (1 : Int32)), (.int (1 : Int32))])) t
                refine XS.goto X222.here hx rfl (pc0 := 104) (pc' := 108) rfl (hb hby at_104) (by decide) (by decide) ?_
                show Steps p.tables e below (T222.setTop (mkF m 108 #[.val (.int p1), .val (.int p2), .val (.int p3), .val (.ref r_186), .val (.ref r_188), .val (.ref b190), .val (.int pv83), .val (.int gv83), .val (.int lv83), .unset, .unset] [(.int (1 : Int32)), (.int (1 : Int32))])) t
                refine XS.icmpNo X222.here hx rfl (hb hby at_108) rfl (teq (by decide : (1 : Int32) = (1 : Int32))).2 ?_
                show Steps p.tables e below (T222.setTop (mkF m 111 #[.val (.int p1), .val (.int p2), .val (.int p3), .val (.ref r_186), .val (.ref r_188), .val (.ref b190), .val (.int pv83), .val (.int gv83), .val (.int lv83), .unset, .unset] [])) t
                refine XS.iconst X222.here hx rfl (hb hby at_111) ?_
                show Steps p.tables e below (T222.setTop (mkF m 112 #[.val (.int p1), .val (.int p2), .val (.int p3), .val (.ref r_186), .val (.ref r_188), .val (.ref b190), .val (.int pv83), .val (.int gv83), .val (.int lv83), .unset, .unset] [(.int (1 : Int32))])) t
                refine XS.goto X222.here hx rfl (pc0 := 112) (pc' := 116) rfl (hb hby at_112) (by decide) (by decide) ?_
                show Steps p.tables e below (T222.setTop (mkF m 116 #[.val (.int p1), .val (.int p2), .val (.int p3), .val (.ref r_186), .val (.ref r_188), .val (.ref b190), .val (.int pv83), .val (.int gv83), .val (.int lv83), .unset, .unset] [(.int (1 : Int32))])) t
                refine XS.istore X222.here hx rfl (hb hby at_116) rfl (l' := #[.val (.int p1), .val (.int p2), .val (.int p3), .val (.ref r_186), .val (.ref r_188), .val (.ref b190), .val (.int pv83), .val (.int gv83), .val (.int lv83), .val (.int (1 : Int32)), .unset]) rfl ?_
                exact k
              exact J196 _ _   (ownWider X222 (by decide) (by decide)) Kq222 NF  
        · skip
          rw [show (own_ru pv83 gv83 lv83) = (1 : Int32) from by simp [own_ru, hc224]]
          show WP p.tables e below _ T222 (mkF m 88 #[.val (.int p1), .val (.int p2), .val (.int p3), .val (.ref r_186), .val (.ref r_188), .val (.ref b190), .val (.int pv83), .val (.int gv83), .val (.int lv83), .unset, .unset] [(.int (1 : Int32))])
          refine WP.st (T' := T222) (f' := (mkF m 118 #[.val (.int p1), .val (.int p2), .val (.int p3), .val (.ref r_186), .val (.ref r_188), .val (.ref b190), .val (.int pv83), .val (.int gv83), .val (.int lv83), .val (.int (1 : Int32)), .unset] [])) (fun t k => ?_) ?_
          · refine XS.iload X222.here hx rfl (hb hby at_88) rfl ?_
            show Steps p.tables e below (T222.setTop (mkF m 90 #[.val (.int p1), .val (.int p2), .val (.int p3), .val (.ref r_186), .val (.ref r_188), .val (.ref b190), .val (.int pv83), .val (.int gv83), .val (.int lv83), .unset, .unset] [(.int pv83), (.int (1 : Int32))])) t
            refine XS.ifYes X222.here hx rfl (pc0 := 90) (pc' := 103) rfl (hb hby at_90) rfl ((if0 _ _).trans (feq hc224).2) (by decide) (by decide) ?_
            show Steps p.tables e below (T222.setTop (mkF m 103 #[.val (.int p1), .val (.int p2), .val (.int p3), .val (.ref r_186), .val (.ref r_188), .val (.ref b190), .val (.int pv83), .val (.int gv83), .val (.int lv83), .unset, .unset] [(.int (1 : Int32))])) t
            refine XS.iconst X222.here hx rfl (hb hby at_103) ?_
            show Steps p.tables e below (T222.setTop (mkF m 104 #[.val (.int p1), .val (.int p2), .val (.int p3), .val (.ref r_186), .val (.ref r_188), .val (.ref b190), .val (.int pv83), .val (.int gv83), .val (.int lv83), .unset, .unset] [(.int (1 : Int32)), (.int (1 : Int32))])) t
            refine XS.goto X222.here hx rfl (pc0 := 104) (pc' := 108) rfl (hb hby at_104) (by decide) (by decide) ?_
            show Steps p.tables e below (T222.setTop (mkF m 108 #[.val (.int p1), .val (.int p2), .val (.int p3), .val (.ref r_186), .val (.ref r_188), .val (.ref b190), .val (.int pv83), .val (.int gv83), .val (.int lv83), .unset, .unset] [(.int (1 : Int32)), (.int (1 : Int32))])) t
            refine XS.icmpNo X222.here hx rfl (hb hby at_108) rfl (teq (by decide : (1 : Int32) = (1 : Int32))).2 ?_
            show Steps p.tables e below (T222.setTop (mkF m 111 #[.val (.int p1), .val (.int p2), .val (.int p3), .val (.ref r_186), .val (.ref r_188), .val (.ref b190), .val (.int pv83), .val (.int gv83), .val (.int lv83), .unset, .unset] [])) t
            refine XS.iconst X222.here hx rfl (hb hby at_111) ?_
            show Steps p.tables e below (T222.setTop (mkF m 112 #[.val (.int p1), .val (.int p2), .val (.int p3), .val (.ref r_186), .val (.ref r_188), .val (.ref b190), .val (.int pv83), .val (.int gv83), .val (.int lv83), .unset, .unset] [(.int (1 : Int32))])) t
            refine XS.goto X222.here hx rfl (pc0 := 112) (pc' := 116) rfl (hb hby at_112) (by decide) (by decide) ?_
            show Steps p.tables e below (T222.setTop (mkF m 116 #[.val (.int p1), .val (.int p2), .val (.int p3), .val (.ref r_186), .val (.ref r_188), .val (.ref b190), .val (.int pv83), .val (.int gv83), .val (.int lv83), .unset, .unset] [(.int (1 : Int32))])) t
            refine XS.istore X222.here hx rfl (hb hby at_116) rfl (l' := #[.val (.int p1), .val (.int p2), .val (.int p3), .val (.ref r_186), .val (.ref r_188), .val (.ref b190), .val (.int pv83), .val (.int gv83), .val (.int lv83), .val (.int (1 : Int32)), .unset]) rfl ?_
            exact k
          exact J196 _ _   (ownWider X222 (by decide) (by decide)) Kq222 NF  
      refine WP.st (T' := Tj194) (f' := (mkF m 75 #[.val (.int p1), .val (.int p2), .val (.int p3), .val (.ref r_186), .val (.ref r_188), .val (.ref b190), .val (.int pv71), .val (.int gv71), .val (.int lv71), .unset, .unset] [(.int (p1 &&& (32 : Int32)))])) (fun t k => ?_) ?_
      · refine XS.iloadN X194.here hx rfl (hb hby at_71) rfl ?_
        show Steps p.tables e below (Tj194.setTop (mkF m 72 #[.val (.int p1), .val (.int p2), .val (.int p3), .val (.ref r_186), .val (.ref r_188), .val (.ref b190), .val (.int pv71), .val (.int gv71), .val (.int lv71), .unset, .unset] [(.int p1)])) t
        refine XS.bipush X194.here hx rfl (hb hby at_72) ?_
        show Steps p.tables e below (Tj194.setTop (mkF m 74 #[.val (.int p1), .val (.int p2), .val (.int p3), .val (.ref r_186), .val (.ref r_188), .val (.ref b190), .val (.int pv71), .val (.int gv71), .val (.int lv71), .unset, .unset] [(.int (32 : Int32)), (.int p1)])) t
        refine XS.iand X194.here hx rfl (hb hby at_74) rfl ?_
        exact k
      by_cases hc227 : (p1 &&& (32 : Int32)) = (0 : Int32)
      · skip
        refine WP.st (T' := Tj194) (f' := (mkF m 83 #[.val (.int p1), .val (.int p2), .val (.int p3), .val (.ref r_186), .val (.ref r_188), .val (.ref b190), .val (.int pv71), .val (.int gv71), .val (.int lv71), .unset, .unset] [])) (fun t k => ?_) ?_
        · refine XS.ifYes X194.here hx rfl (pc0 := 75) (pc' := 83) rfl (hb hby at_75) rfl ((if0 _ _).trans (teq hc227).1) (by decide) (by decide) ?_
          exact k
        exact J195 _ _ _ _ _ _ pv71 gv71 lv71 tv71 db71 hsE SI W0 hZ hown (ownWider X194 (by decide) (by decide)) ej194 NF Z0 OLD E_r_186 F_r_186_coder F_r_186_value V_ta_186 E_r_188 F_r_188_coder F_r_188_value V_ta_188 JK E_b190 F_b190_internalParameterEntity F_b190_internalGeneralEntity F_b190_attributeList F_b190_documentTypeDeclaration F_b190_declaringBytes F_b190_bytes F_b190_stretch F_b190_started 
      · skip
        refine WP.st (T' := Tj194) (f' := (mkF m 80 #[.val (.int p1), .val (.int p2), .val (.int p3), .val (.ref r_186), .val (.ref r_188), .val (.ref b190), .val (.int pv71), .val (.int gv71), .val (.int lv71), .unset, .unset] [(.ref b190)])) (fun t k => ?_) ?_
        · refine XS.ifNo X194.here hx rfl (hb hby at_75) rfl ((if0 _ _).trans (feq hc227).1) ?_
          show Steps p.tables e below (Tj194.setTop (mkF m 78 #[.val (.int p1), .val (.int p2), .val (.int p3), .val (.ref r_186), .val (.ref r_188), .val (.ref b190), .val (.int pv71), .val (.int gv71), .val (.int lv71), .unset, .unset] [])) t
          refine XS.aload X194.here hx rfl (hb hby at_78) rfl rfl ?_
          exact k
        obtain ⟨cq228, kq228, q228a, q228b, q228c⟩ := isOf hZ ej194 E_b190
        obtain ⟨_, _, ⟨T228, L228, k228, n228⟩, -, X228, ⟨Lc228, hQ228, l228, y228, z228⟩, st228⟩ := X194.virtualBack hx (y := (⟨"com/example/skope/skope/xml/Intake", "addDocumentTypeDeclaration", "()V"⟩ : MethodName)) (z := (⟨"com/example/skope/skope/xml/Intake", "addDocumentTypeDeclaration", "()V"⟩ : MethodName)) hown (mvT hZ (w_90 hw)) (mvT hZ (w_91 hw)) (notFace_of_selects (args := #[]) (mvT hZ (w_93 hw))) (mvT hZ (w_93 hw)) (mvT hZ (w_92 hw)) (by decide) (backOf (W := 0) (rm16 l Z a0 hw [] b190 pv71 gv71 lv71 tv71 db71 (0 : Int64) (0 : Int64) (0 : Int32) hj194 n0 Z0 E_b190 g_b190 F_b190_internalParameterEntity F_b190_internalGeneralEntity F_b190_attributeList F_b190_documentTypeDeclaration F_b190_declaringBytes F_b190_bytes F_b190_stretch F_b190_started) hZ (w_94 hw) (w_39 hw) (by decide) (by decide)) q228a q228c (g := (mkF m 80 #[.val (.int p1), .val (.int p2), .val (.int p3), .val (.ref r_186), .val (.ref r_188), .val (.ref b190), .val (.int pv71), .val (.int gv71), .val (.int lv71), .unset, .unset] [(.ref b190)])) rfl (by rw [hml]; rfl) (Steps.refl _) (argsL := []) (rest := []) (lenOf pd_13 rfl) rfl (by show 2 * 0 + _ ≤ _; exact Nat.le_of_eq rfl) (hb hby at_80) (fun _ _ => ⟨rfl, ej194, (by decide : 12 + 0 ≤ _), (by decide : 39 + 0 ≤ _)⟩)
        dsimp only [Pt.U, Pt.locs, Pt.cells, Pt.slots] at X228 l228 y228 z228 st228 hQ228
        subst l228 y228 z228
        obtain ⟨rfl, Nq228, Kq228, nF228_b190_internalParameterEntity, nF228_b190_internalGeneralEntity, nF228_b190_attributeList, nF228_b190_documentTypeDeclaration, nF228_b190_declaringBytes, nF228_b190_bytes, nF228_b190_stretch, nF228_b190_started⟩ := hQ228
        replace NF := Fr.app NF Nq228
        clear Nq228
        refine WP.tr st228 ?_
        clear st228
        obtain ⟨h228, e228⟩ : ∃ h, T228.heap = h := ⟨_, rfl⟩
        rw [e228] at Kq228 nF228_b190_internalParameterEntity nF228_b190_internalGeneralEntity nF228_b190_attributeList nF228_b190_documentTypeDeclaration nF228_b190_declaringBytes nF228_b190_bytes nF228_b190_stretch nF228_b190_started
        replace JK := own_POK.keep JK Kq228 E_b190 (by decide) (w_38 hw)
        replace OLD := OLD.keep Kq228 (allS g_b190 all0)
        replace E_r_186 := E_r_186.keep Kq228
        replace F_r_186_coder := F_r_186_coder.keep Kq228 (by exact ninS ne_r_186_b190 (nin0))
        replace F_r_186_value := F_r_186_value.keep Kq228 (by exact ninS ne_r_186_b190 (nin0))
        replace V_ta_186 := V_ta_186.keep Kq228 (by exact ninS ne_ta_186_b190 (nin0))
        replace E_r_188 := E_r_188.keep Kq228
        replace F_r_188_coder := F_r_188_coder.keep Kq228 (by exact ninS ne_r_188_b190 (nin0))
        replace F_r_188_value := F_r_188_value.keep Kq228 (by exact ninS ne_r_188_b190 (nin0))
        replace V_ta_188 := V_ta_188.keep Kq228 (by exact ninS ne_ta_188_b190 (nin0))
        replace E_b190 := E_b190.keep Kq228
        clear F_b190_internalParameterEntity
        clear F_b190_internalGeneralEntity
        clear F_b190_attributeList
        clear F_b190_documentTypeDeclaration
        clear F_b190_declaringBytes
        clear F_b190_bytes
        clear F_b190_stretch
        clear F_b190_started
        replace Z0 := Nat.le_trans Z0 Kq228.1
        replace W0 := Nat.le_trans W0 Kq228.1
        clear Kq228
        have F_b190_internalParameterEntity := nF228_b190_internalParameterEntity
        clear nF228_b190_internalParameterEntity
        have F_b190_internalGeneralEntity := nF228_b190_internalGeneralEntity
        clear nF228_b190_internalGeneralEntity
        have F_b190_attributeList := nF228_b190_attributeList
        clear nF228_b190_attributeList
        have F_b190_documentTypeDeclaration := nF228_b190_documentTypeDeclaration
        clear nF228_b190_documentTypeDeclaration
        have F_b190_declaringBytes := nF228_b190_declaringBytes
        clear nF228_b190_declaringBytes
        have F_b190_bytes := nF228_b190_bytes
        clear nF228_b190_bytes
        have F_b190_stretch := nF228_b190_stretch
        clear nF228_b190_stretch
        have F_b190_started := nF228_b190_started
        clear nF228_b190_started
        have hXN : ∃ LL, Stand p l e room_1 s m #[(.int p1), (.int p2), (.int p3)] below meth c T228 LL 12 39 ∧ Fr n0 LL := ⟨_, X228, NF⟩
        clear X228 NF
        obtain ⟨LL229, X228, NF⟩ := hXN
        show WP p.tables e below _ T228 (mkF m 83 #[.val (.int p1), .val (.int p2), .val (.int p3), .val (.ref r_186), .val (.ref r_188), .val (.ref b190), .val (.int pv71), .val (.int gv71), .val (.int lv71), .unset, .unset] [])
        exact J195 _ _ _ _ _ _ pv71 gv71 lv71 (1 : Int32) db71 hsE SI W0 hZ hown (ownWider X228 (by decide) (by decide)) e228 NF Z0 OLD E_r_186 F_r_186_coder F_r_186_value V_ta_186 E_r_188 F_r_188_coder F_r_188_value V_ta_188 JK E_b190 F_b190_internalParameterEntity F_b190_internalGeneralEntity F_b190_attributeList F_b190_documentTypeDeclaration F_b190_declaringBytes F_b190_bytes F_b190_stretch F_b190_started 
    refine WP.st (T' := Tj193) (f' := (mkF m 60 #[.val (.int p1), .val (.int p2), .val (.int p3), .val (.ref r_186), .val (.ref r_188), .val (.ref b190), .val (.int pv57), .val (.int gv57), .val (.int lv57), .unset, .unset] [(.int (p1 &&& (2 : Int32)))])) (fun t k => ?_) ?_
    · refine XS.iloadN X193.here hx rfl (hb hby at_57) rfl ?_
      show Steps p.tables e below (Tj193.setTop (mkF m 58 #[.val (.int p1), .val (.int p2), .val (.int p3), .val (.ref r_186), .val (.ref r_188), .val (.ref b190), .val (.int pv57), .val (.int gv57), .val (.int lv57), .unset, .unset] [(.int p1)])) t
      refine XS.iconst X193.here hx rfl (hb hby at_58) ?_
      show Steps p.tables e below (Tj193.setTop (mkF m 59 #[.val (.int p1), .val (.int p2), .val (.int p3), .val (.ref r_186), .val (.ref r_188), .val (.ref b190), .val (.int pv57), .val (.int gv57), .val (.int lv57), .unset, .unset] [(.int (2 : Int32)), (.int p1)])) t
      refine XS.iand X193.here hx rfl (hb hby at_59) rfl ?_
      exact k
    by_cases hc230 : (p1 &&& (2 : Int32)) = (0 : Int32)
    · skip
      refine WP.st (T' := Tj193) (f' := (mkF m 71 #[.val (.int p1), .val (.int p2), .val (.int p3), .val (.ref r_186), .val (.ref r_188), .val (.ref b190), .val (.int pv57), .val (.int gv57), .val (.int lv57), .unset, .unset] [])) (fun t k => ?_) ?_
      · refine XS.ifYes X193.here hx rfl (pc0 := 60) (pc' := 71) rfl (hb hby at_60) rfl ((if0 _ _).trans (teq hc230).1) (by decide) (by decide) ?_
        exact k
      exact J194 _ _ _ _ _ _ pv57 gv57 lv57 tv57 db57 hsE SI W0 hZ hown (ownWider X193 (by decide) (by decide)) ej193 NF Z0 OLD E_r_186 F_r_186_coder F_r_186_value V_ta_186 E_r_188 F_r_188_coder F_r_188_value V_ta_188 JK E_b190 F_b190_internalParameterEntity F_b190_internalGeneralEntity F_b190_attributeList F_b190_documentTypeDeclaration F_b190_declaringBytes F_b190_bytes F_b190_stretch F_b190_started 
    · skip
      refine WP.st (T' := Tj193) (f' := (mkF m 65 #[.val (.int p1), .val (.int p2), .val (.int p3), .val (.ref r_186), .val (.ref r_188), .val (.ref b190), .val (.int pv57), .val (.int gv57), .val (.int lv57), .unset, .unset] [(.ref b190)])) (fun t k => ?_) ?_
      · refine XS.ifNo X193.here hx rfl (hb hby at_60) rfl ((if0 _ _).trans (feq hc230).1) ?_
        show Steps p.tables e below (Tj193.setTop (mkF m 63 #[.val (.int p1), .val (.int p2), .val (.int p3), .val (.ref r_186), .val (.ref r_188), .val (.ref b190), .val (.int pv57), .val (.int gv57), .val (.int lv57), .unset, .unset] [])) t
        refine XS.aload X193.here hx rfl (hb hby at_63) rfl rfl ?_
        exact k
      obtain ⟨cq231, kq231, q231a, q231b, q231c⟩ := isOf hZ ej193 E_b190
      obtain ⟨_, _, ⟨T231, L231, k231, n231⟩, -, X231, ⟨Lc231, hQ231, l231, y231, z231⟩, st231⟩ := X193.virtualBack hx (y := (⟨"com/example/skope/skope/xml/Intake", "addAttributeList", "()V"⟩ : MethodName)) (z := (⟨"com/example/skope/skope/xml/Intake", "addAttributeList", "()V"⟩ : MethodName)) hown (mvT hZ (w_124 hw)) (mvT hZ (w_125 hw)) (notFace_of_selects (args := #[]) (mvT hZ (w_127 hw))) (mvT hZ (w_127 hw)) (mvT hZ (w_126 hw)) (by decide) (backOf (W := 0) (rm22 l Z a0 hw [] b190 pv57 gv57 lv57 tv57 db57 (0 : Int64) (0 : Int64) (0 : Int32) hj193 n0 Z0 E_b190 g_b190 F_b190_internalParameterEntity F_b190_internalGeneralEntity F_b190_attributeList F_b190_documentTypeDeclaration F_b190_declaringBytes F_b190_bytes F_b190_stretch F_b190_started) hZ (w_128 hw) (w_39 hw) (by decide) (by decide)) q231a q231c (g := (mkF m 65 #[.val (.int p1), .val (.int p2), .val (.int p3), .val (.ref r_186), .val (.ref r_188), .val (.ref b190), .val (.int pv57), .val (.int gv57), .val (.int lv57), .unset, .unset] [(.ref b190)])) rfl (by rw [hml]; rfl) (Steps.refl _) (argsL := []) (rest := []) (lenOf pd_13 rfl) rfl (by show 2 * 0 + _ ≤ _; exact Nat.le_of_eq rfl) (hb hby at_65) (fun _ _ => ⟨rfl, ej193, (by decide : 12 + 0 ≤ _), (by decide : 39 + 0 ≤ _)⟩)
      dsimp only [Pt.U, Pt.locs, Pt.cells, Pt.slots] at X231 l231 y231 z231 st231 hQ231
      subst l231 y231 z231
      obtain ⟨rfl, Nq231, Kq231, nF231_b190_internalParameterEntity, nF231_b190_internalGeneralEntity, nF231_b190_attributeList, nF231_b190_documentTypeDeclaration, nF231_b190_declaringBytes, nF231_b190_bytes, nF231_b190_stretch, nF231_b190_started⟩ := hQ231
      replace NF := Fr.app NF Nq231
      clear Nq231
      refine WP.tr st231 ?_
      clear st231
      obtain ⟨h231, e231⟩ : ∃ h, T231.heap = h := ⟨_, rfl⟩
      rw [e231] at Kq231 nF231_b190_internalParameterEntity nF231_b190_internalGeneralEntity nF231_b190_attributeList nF231_b190_documentTypeDeclaration nF231_b190_declaringBytes nF231_b190_bytes nF231_b190_stretch nF231_b190_started
      replace JK := own_POK.keep JK Kq231 E_b190 (by decide) (w_38 hw)
      replace OLD := OLD.keep Kq231 (allS g_b190 all0)
      replace E_r_186 := E_r_186.keep Kq231
      replace F_r_186_coder := F_r_186_coder.keep Kq231 (by exact ninS ne_r_186_b190 (nin0))
      replace F_r_186_value := F_r_186_value.keep Kq231 (by exact ninS ne_r_186_b190 (nin0))
      replace V_ta_186 := V_ta_186.keep Kq231 (by exact ninS ne_ta_186_b190 (nin0))
      replace E_r_188 := E_r_188.keep Kq231
      replace F_r_188_coder := F_r_188_coder.keep Kq231 (by exact ninS ne_r_188_b190 (nin0))
      replace F_r_188_value := F_r_188_value.keep Kq231 (by exact ninS ne_r_188_b190 (nin0))
      replace V_ta_188 := V_ta_188.keep Kq231 (by exact ninS ne_ta_188_b190 (nin0))
      replace E_b190 := E_b190.keep Kq231
      clear F_b190_internalParameterEntity
      clear F_b190_internalGeneralEntity
      clear F_b190_attributeList
      clear F_b190_documentTypeDeclaration
      clear F_b190_declaringBytes
      clear F_b190_bytes
      clear F_b190_stretch
      clear F_b190_started
      replace Z0 := Nat.le_trans Z0 Kq231.1
      replace W0 := Nat.le_trans W0 Kq231.1
      clear Kq231
      have F_b190_internalParameterEntity := nF231_b190_internalParameterEntity
      clear nF231_b190_internalParameterEntity
      have F_b190_internalGeneralEntity := nF231_b190_internalGeneralEntity
      clear nF231_b190_internalGeneralEntity
      have F_b190_attributeList := nF231_b190_attributeList
      clear nF231_b190_attributeList
      have F_b190_documentTypeDeclaration := nF231_b190_documentTypeDeclaration
      clear nF231_b190_documentTypeDeclaration
      have F_b190_declaringBytes := nF231_b190_declaringBytes
      clear nF231_b190_declaringBytes
      have F_b190_bytes := nF231_b190_bytes
      clear nF231_b190_bytes
      have F_b190_stretch := nF231_b190_stretch
      clear nF231_b190_stretch
      have F_b190_started := nF231_b190_started
      clear nF231_b190_started
      have hXN : ∃ LL, Stand p l e room_1 s m #[(.int p1), (.int p2), (.int p3)] below meth c T231 LL 12 39 ∧ Fr n0 LL := ⟨_, X231, NF⟩
      clear X231 NF
      obtain ⟨LL232, X231, NF⟩ := hXN
      show WP p.tables e below _ T231 (mkF m 68 #[.val (.int p1), .val (.int p2), .val (.int p3), .val (.ref r_186), .val (.ref r_188), .val (.ref b190), .val (.int pv57), .val (.int gv57), .val (.int lv57), .unset, .unset] [])
      refine WP.st (T' := T231) (f' := (mkF m 71 #[.val (.int p1), .val (.int p2), .val (.int p3), .val (.ref r_186), .val (.ref r_188), .val (.ref b190), .val (.int pv57), .val (.int gv57), .val (.int (1 : Int32)), .unset, .unset] [])) (fun t k => ?_) ?_
      · refine XS.iconst X231.here hx rfl (hb hby at_68) ?_
        show Steps p.tables e below (T231.setTop (mkF m 69 #[.val (.int p1), .val (.int p2), .val (.int p3), .val (.ref r_186), .val (.ref r_188), .val (.ref b190), .val (.int pv57), .val (.int gv57), .val (.int lv57), .unset, .unset] [(.int (1 : Int32))])) t
        refine XS.istore X231.here hx rfl (hb hby at_69) rfl (l' := #[.val (.int p1), .val (.int p2), .val (.int p3), .val (.ref r_186), .val (.ref r_188), .val (.ref b190), .val (.int pv57), .val (.int gv57), .val (.int (1 : Int32)), .unset, .unset]) rfl ?_
        exact k
      exact J194 _ _ _ _ _ _ pv57 gv57 (1 : Int32) tv57 db57 hsE SI W0 hZ hown (ownWider X231 (by decide) (by decide)) e231 NF Z0 OLD E_r_186 F_r_186_coder F_r_186_value V_ta_186 E_r_188 F_r_188_coder F_r_188_value V_ta_188 JK E_b190 F_b190_internalParameterEntity F_b190_internalGeneralEntity F_b190_attributeList F_b190_documentTypeDeclaration F_b190_declaringBytes F_b190_bytes F_b190_stretch F_b190_started 
  refine WP.st (T' := T191) (f' := (mkF m 32 #[.val (.int p1), .val (.int p2), .val (.int p3), .val (.ref r_186), .val (.ref r_188), .val (.ref b190), .val (.int (0 : Int32)), .val (.int (0 : Int32)), .val (.int (0 : Int32)), .unset, .unset] [(.int (p1 &&& (1 : Int32)))])) (fun t k => ?_) ?_
  · refine XS.iloadN X191.here hx rfl (hb hby at_29) rfl ?_
    show Steps p.tables e below (T191.setTop (mkF m 30 #[.val (.int p1), .val (.int p2), .val (.int p3), .val (.ref r_186), .val (.ref r_188), .val (.ref b190), .val (.int (0 : Int32)), .val (.int (0 : Int32)), .val (.int (0 : Int32)), .unset, .unset] [(.int p1)])) t
    refine XS.iconst X191.here hx rfl (hb hby at_30) ?_
    show Steps p.tables e below (T191.setTop (mkF m 31 #[.val (.int p1), .val (.int p2), .val (.int p3), .val (.ref r_186), .val (.ref r_188), .val (.ref b190), .val (.int (0 : Int32)), .val (.int (0 : Int32)), .val (.int (0 : Int32)), .unset, .unset] [(.int (1 : Int32)), (.int p1)])) t
    refine XS.iand X191.here hx rfl (hb hby at_31) rfl ?_
    exact k
  by_cases hc233 : (p1 &&& (1 : Int32)) = (0 : Int32)
  · skip
    refine WP.st (T' := T191) (f' := (mkF m 57 #[.val (.int p1), .val (.int p2), .val (.int p3), .val (.ref r_186), .val (.ref r_188), .val (.ref b190), .val (.int (0 : Int32)), .val (.int (0 : Int32)), .val (.int (0 : Int32)), .unset, .unset] [])) (fun t k => ?_) ?_
    · refine XS.ifYes X191.here hx rfl (pc0 := 32) (pc' := 57) rfl (hb hby at_32) rfl ((if0 _ _).trans (teq hc233).1) (by decide) (by decide) ?_
      exact k
    exact J193 _ _ _ _ _ _ (0 : Int32) (0 : Int32) (0 : Int32) (0 : Int32) (0 : Int64) hsE SI W0 hZ hown (ownWider X191 (by decide) (by decide)) e191 NF Z0 OLD E_r_186 F_r_186_coder F_r_186_value V_ta_186 E_r_188 F_r_188_coder F_r_188_value V_ta_188 JK E_b190 F_b190_internalParameterEntity F_b190_internalGeneralEntity F_b190_attributeList F_b190_documentTypeDeclaration F_b190_declaringBytes F_b190_bytes F_b190_stretch F_b190_started 
  · skip
    refine WP.st (T' := T191) (f' := (mkF m 35 #[.val (.int p1), .val (.int p2), .val (.int p3), .val (.ref r_186), .val (.ref r_188), .val (.ref b190), .val (.int (0 : Int32)), .val (.int (0 : Int32)), .val (.int (0 : Int32)), .unset, .unset] [])) (fun t k => ?_) ?_
    · refine XS.ifNo X191.here hx rfl (hb hby at_32) rfl ((if0 _ _).trans (feq hc233).1) ?_
      exact k
    by_cases hc234 : own_isP cs_186 = (1 : Int32)
    · skip
      refine WP.st (T' := T191) (f' := (mkF m 38 #[.val (.int p1), .val (.int p2), .val (.int p3), .val (.ref r_186), .val (.ref r_188), .val (.ref b190), .val (.int (0 : Int32)), .val (.int (0 : Int32)), .val (.int (0 : Int32)), .unset, .unset] [(.ref r_186), (.ref b190)])) (fun t k => ?_) ?_
      · refine XS.aload X191.here hx rfl (hb hby at_35) rfl rfl ?_
        show Steps p.tables e below (T191.setTop (mkF m 37 #[.val (.int p1), .val (.int p2), .val (.int p3), .val (.ref r_186), .val (.ref r_188), .val (.ref b190), .val (.int (0 : Int32)), .val (.int (0 : Int32)), .val (.int (0 : Int32)), .unset, .unset] [(.ref b190)])) t
        refine XS.aloadN X191.here hx rfl (hb hby at_37) rfl rfl ?_
        exact k
      subst hsE
      obtain ⟨cq235, kq235, q235a, q235b, q235c⟩ := isOf hZ e191 E_b190
      obtain ⟨_, _, ⟨T235, L235, k235, n235⟩, -, X235, SJ235, gr235, ⟨Lc235, hQ235, l235, y235, z235⟩, st235⟩ := X191.virtualBackS hx (y := (⟨"com/example/skope/skope/xml/Intake", "addInternalEntity", "(Ljava/lang/String;)V"⟩ : MethodName)) (z := (⟨"com/example/skope/skope/xml/Intake", "addInternalEntity", "(Ljava/lang/String;)V"⟩ : MethodName)) hown (mvT hZ (w_58 hw)) (mvT hZ (w_59 hw)) (notFace_of_selects (args := #[]) (mvT hZ (w_61 hw))) (mvT hZ (w_61 hw)) (mvT hZ (w_60 hw)) (by decide) (own_backOfJ (J := own_POK Z h191) (W := 0) (rm10y l Z a0 hw [] b190 r_186 (0 : Int32) (0 : Int32) (0 : Int32) (0 : Int32) (0 : Int64) (0 : Int64) (0 : Int64) (0 : Int32) ta_186 kb_186 cs_186 gC h191 n0 Z0 E_b190 g_b190 F_b190_internalParameterEntity F_b190_internalGeneralEntity F_b190_attributeList F_b190_documentTypeDeclaration F_b190_declaringBytes F_b190_bytes F_b190_stretch F_b190_started E_r_186 F_r_186_value F_r_186_coder V_ta_186 (hcs_186 : ∀ c ∈ cs_186, own_byte c) (hcl_186 : cs_186.length ≤ 2) OLD (O2 : Sta Z Z.heap "java/lang/String" "COMPACT_STRINGS" "Z" (.int gC)) (hz : ¬ gC = (0 : Int32)) (hCHP : Jvm.Lit.constHeld Z "com/example/skope/skope/xml/Intake" 64) (hCW : Jvm.Lit.compactW.before a0 Z = true) hc234) hZ (fun _ q => own_POK.mv (s := s0.setVm vmw) JK q) (w_62 hw) (w_39 hw) (by decide) (by decide)) q235a q235c (g := (mkF m 38 #[.val (.int p1), .val (.int p2), .val (.int p3), .val (.ref r_186), .val (.ref r_188), .val (.ref b190), .val (.int (0 : Int32)), .val (.int (0 : Int32)), .val (.int (0 : Int32)), .unset, .unset] [(.ref r_186), (.ref b190)])) rfl (by rw [hml]; rfl) (Steps.refl _) (argsL := [(.ref r_186)]) (rest := []) (lenOf pd_15 rfl) rfl (by show 2 * 0 + _ ≤ _; exact Nat.le_of_eq rfl) (hb hby at_38) (fun _ _ => ⟨rfl, e191, (by decide : 10 + 2 ≤ _), (by decide : 31 + 8 ≤ _)⟩)
      dsimp only [Pt.U, Pt.locs, Pt.cells, Pt.slots] at X235 l235 y235 z235 st235 hQ235 SJ235 gr235
      subst l235 y235 z235
      have SI235 := foldS SI (T := T191) (Nat.le_trans W0 (Nat.le_of_eq (by rw [e191]))) SJ235 gr235
      have hZ235 := State.Warmed39.trans (t := s0.setVm vmw) hZ SJ235.1
      have hown235 : T235.vm.findClass "com/example/skope/skope/xml/IntakeReplacedUncountedPinLaw" = some m.cls := by rw [SJ235.1.alike.findClass]; exact hown
      obtain ⟨rfl, Nq235, Kq235, nF235_b190_internalParameterEntity, nF235_b190_internalGeneralEntity, nF235_b190_attributeList, nF235_b190_documentTypeDeclaration, nF235_b190_declaringBytes, nF235_b190_bytes, nF235_b190_stretch, nF235_b190_started, nJ235⟩ := hQ235
      replace NF := Fr.app NF Nq235
      clear Nq235
      refine WP.tr st235 ?_
      clear st235
      obtain ⟨h235, e235⟩ : ∃ h, T235.heap = h := ⟨_, rfl⟩
      clear JK
      rw [e235] at Kq235 nF235_b190_internalParameterEntity nF235_b190_internalGeneralEntity nF235_b190_attributeList nF235_b190_documentTypeDeclaration nF235_b190_declaringBytes nF235_b190_bytes nF235_b190_stretch nF235_b190_started nJ235
      replace OLD := OLD.keep Kq235 (allS g_b190 all0)
      replace E_r_186 := E_r_186.keep Kq235
      replace F_r_186_coder := F_r_186_coder.keep Kq235 (by exact ninS ne_r_186_b190 (nin0))
      replace F_r_186_value := F_r_186_value.keep Kq235 (by exact ninS ne_r_186_b190 (nin0))
      replace V_ta_186 := V_ta_186.keep Kq235 (by exact ninS ne_ta_186_b190 (nin0))
      replace E_r_188 := E_r_188.keep Kq235
      replace F_r_188_coder := F_r_188_coder.keep Kq235 (by exact ninS ne_r_188_b190 (nin0))
      replace F_r_188_value := F_r_188_value.keep Kq235 (by exact ninS ne_r_188_b190 (nin0))
      replace V_ta_188 := V_ta_188.keep Kq235 (by exact ninS ne_ta_188_b190 (nin0))
      replace E_b190 := E_b190.keep Kq235
      clear F_b190_dropsNames
      clear F_b190_internalParameterEntity
      clear F_b190_internalGeneralEntity
      clear F_b190_attributeList
      clear F_b190_documentTypeDeclaration
      clear F_b190_declaringBytes
      clear F_b190_bytes
      clear F_b190_stretch
      clear F_b190_started
      replace Z0 := Nat.le_trans Z0 Kq235.1
      replace W0 := Nat.le_trans W0 Kq235.1
      clear Kq235
      have F_b190_internalParameterEntity := nF235_b190_internalParameterEntity
      clear nF235_b190_internalParameterEntity
      have F_b190_internalGeneralEntity := nF235_b190_internalGeneralEntity
      clear nF235_b190_internalGeneralEntity
      have F_b190_attributeList := nF235_b190_attributeList
      clear nF235_b190_attributeList
      have F_b190_documentTypeDeclaration := nF235_b190_documentTypeDeclaration
      clear nF235_b190_documentTypeDeclaration
      have F_b190_declaringBytes := nF235_b190_declaringBytes
      clear nF235_b190_declaringBytes
      have F_b190_bytes := nF235_b190_bytes
      clear nF235_b190_bytes
      have F_b190_stretch := nF235_b190_stretch
      clear nF235_b190_stretch
      have F_b190_started := nF235_b190_started
      clear nF235_b190_started
      clear W0
      have W0 : T235.heap.size ≤ h235.size := Nat.le_of_eq (by rw [e235])
      clear hZ hown SI
      obtain ⟨vmw, hvw⟩ : ∃ z, z = T235.vm := ⟨_, rfl⟩
      replace hZ235 : Z.Warmed39 vmw := by rw [hvw]; exact hZ235
      replace hown235 : vmw.findClass "com/example/skope/skope/xml/IntakeReplacedUncountedPinLaw" = some m.cls := by rw [hvw]; exact hown235
      have SI := SI235
      clear SI235
      rw [← hvw] at SI
      have JK : own_POK Z h235 vmw := by rw [hvw]; exact nJ235
      clear nJ235
      obtain ⟨s, hsE⟩ : ∃ z, z = s0.setVm vmw := ⟨_, rfl⟩
      have hX : ∃ LL, Stand p l e room_1 s m #[(.int p1), (.int p2), (.int p3)] below meth c T235 LL 12 39 ∧ Fr n0 LL := ⟨_, (by rw [hsE, hvw]; exact X235), NF⟩
      clear X235 NF
      obtain ⟨LL235, X235, NF⟩ := hX
      clear hvw
      have hZ : Z.Warmed39 s.vm := by rw [hsE]; exact hZ235
      have hown : s.vm.findClass "com/example/skope/skope/xml/IntakeReplacedUncountedPinLaw" = some m.cls := by rw [hsE]; exact hown235
      clear hZ235 hown235
      have hXN : ∃ LL, Stand p l e room_1 s m #[(.int p1), (.int p2), (.int p3)] below meth c T235 LL 12 39 ∧ Fr n0 LL := ⟨_, X235, NF⟩
      clear X235 NF
      obtain ⟨LL236, X235, NF⟩ := hXN
      show WP p.tables e below _ T235 (mkF m 41 #[.val (.int p1), .val (.int p2), .val (.int p3), .val (.ref r_186), .val (.ref r_188), .val (.ref b190), .val (.int (0 : Int32)), .val (.int (0 : Int32)), .val (.int (0 : Int32)), .unset, .unset] [])
      refine WP.st (T' := T235) (f' := (mkF m 42 #[.val (.int p1), .val (.int p2), .val (.int p3), .val (.ref r_186), .val (.ref r_188), .val (.ref b190), .val (.int (0 : Int32)), .val (.int (0 : Int32)), .val (.int (0 : Int32)), .unset, .unset] [(.ref r_186)])) (fun t k => ?_) ?_
      · refine XS.aloadN X235.here hx rfl (hb hby at_41) rfl rfl ?_
        exact k
      obtain ⟨_, _, ⟨T237, L237, k237, n237⟩, -, X237, ⟨Lc237, hQ237, l237, y237, z237⟩, st237⟩ := Jvm.LawKit.callS X235 hx (y := (⟨"com/example/skope/skope/xml/IntakeReplacedUncountedPinLaw", "isParam", "(Ljava/lang/String;)Z"⟩ : MethodName)) hown (mvT hZ (w_84 hw)) (mvT hZ (w_85 hw)) (mvT hZ (w_2 hw)) (mvT hZ (w_86 hw)) (by decide) (backOf (W := 0) (rm15 l Z a0 hw [] r_186 ta_186 kb_186 cs_186 gC gF h235 n0 Z0 E_r_186 F_r_186_value F_r_186_coder V_ta_186 (hcs_186 : ∀ c ∈ cs_186, own_byte c) (hcl_186 : cs_186.length ≤ 2) OLD (O2 : Sta Z Z.heap "java/lang/String" "COMPACT_STRINGS" "Z" (.int gC)) (hz : ¬ gC = (0 : Int32)) (O4 : Sta Z Z.heap "jdk/internal/util/Preconditions" "SIOOBE_FORMATTER" "Ljava/util/function/BiFunction;" gF) (rf : gF.isRef = true)) hZ (w_86 hw) (w_2 hw) (by decide) (by decide)) (g := (mkF m 42 #[.val (.int p1), .val (.int p2), .val (.int p3), .val (.ref r_186), .val (.ref r_188), .val (.ref b190), .val (.int (0 : Int32)), .val (.int (0 : Int32)), .val (.int (0 : Int32)), .unset, .unset] [(.ref r_186)])) rfl (by rw [hml]; rfl) (argsL := [(.ref r_186)]) (rest := []) (lenOf pd_11 rfl) rfl (by show 2 * 0 + _ ≤ _; exact Nat.le_of_eq rfl) (hb hby at_42) (fun _ _ => ⟨rfl, e235, (by decide : 12 + 0 ≤ _), (by decide : 39 + 0 ≤ _)⟩)
      dsimp only [Pt.U, Pt.locs, Pt.cells, Pt.slots] at X237 l237 y237 z237 st237 hQ237
      subst l237 y237 z237
      obtain ⟨rfl, Nq237, Kq237⟩ := hQ237
      replace NF := Fr.app NF Nq237
      clear Nq237
      refine WP.st st237 ?_
      clear st237
      replace Kq237 := Kq237.trans (rfl : h235 = h235)
      have hXN : ∃ LL, Stand p l e room_1 s m #[(.int p1), (.int p2), (.int p3)] below meth c T237 LL 12 39 ∧ Fr n0 LL := ⟨_, X237, NF⟩
      clear X237 NF
      obtain ⟨LL238, X237, NF⟩ := hXN
      show WP p.tables e below _ T237 (mkF m 45 #[.val (.int p1), .val (.int p2), .val (.int p3), .val (.ref r_186), .val (.ref r_188), .val (.ref b190), .val (.int (0 : Int32)), .val (.int (0 : Int32)), .val (.int (0 : Int32)), .unset, .unset] [(.int (own_isP cs_186))])
      rw [show (own_isP cs_186) = (1 : Int32) from hc234]
      show WP p.tables e below _ T237 (mkF m 45 #[.val (.int p1), .val (.int p2), .val (.int p3), .val (.ref r_186), .val (.ref r_188), .val (.ref b190), .val (.int (0 : Int32)), .val (.int (0 : Int32)), .val (.int (0 : Int32)), .unset, .unset] [(.int (1 : Int32))])
      refine WP.st (T' := T237) (f' := (mkF m 57 #[.val (.int p1), .val (.int p2), .val (.int p3), .val (.ref r_186), .val (.ref r_188), .val (.ref b190), .val (.int (1 : Int32)), .val (.int (0 : Int32)), .val (.int (0 : Int32)), .unset, .unset] [])) (fun t k => ?_) ?_
      · refine XS.ifNo X237.here hx rfl (hb hby at_45) rfl ((if0 _ _).trans (feq (by decide : ¬ ((1 : Int32) = (0 : Int32)))).1) ?_
        show Steps p.tables e below (T237.setTop (mkF m 48 #[.val (.int p1), .val (.int p2), .val (.int p3), .val (.ref r_186), .val (.ref r_188), .val (.ref b190), .val (.int (0 : Int32)), .val (.int (0 : Int32)), .val (.int (0 : Int32)), .unset, .unset] [])) t
        refine XS.iconst X237.here hx rfl (hb hby at_48) ?_
        show Steps p.tables e below (T237.setTop (mkF m 49 #[.val (.int p1), .val (.int p2), .val (.int p3), .val (.ref r_186), .val (.ref r_188), .val (.ref b190), .val (.int (0 : Int32)), .val (.int (0 : Int32)), .val (.int (0 : Int32)), .unset, .unset] [(.int (1 : Int32))])) t
        refine XS.istore X237.here hx rfl (hb hby at_49) rfl (l' := #[.val (.int p1), .val (.int p2), .val (.int p3), .val (.ref r_186), .val (.ref r_188), .val (.ref b190), .val (.int (1 : Int32)), .val (.int (0 : Int32)), .val (.int (0 : Int32)), .unset, .unset]) rfl ?_
        show Steps p.tables e below (T237.setTop (mkF m 51 #[.val (.int p1), .val (.int p2), .val (.int p3), .val (.ref r_186), .val (.ref r_188), .val (.ref b190), .val (.int (1 : Int32)), .val (.int (0 : Int32)), .val (.int (0 : Int32)), .unset, .unset] [])) t
        refine XS.goto X237.here hx rfl (pc0 := 51) (pc' := 57) rfl (hb hby at_51) (by decide) (by decide) ?_
        exact k
      exact J193 _ _ _ _ _ _ (1 : Int32) (0 : Int32) (0 : Int32) (0 : Int32) (0 : Int64) hsE SI W0 hZ hown (ownWider X237 (by decide) (by decide)) Kq237 NF Z0 OLD E_r_186 F_r_186_coder F_r_186_value V_ta_186 E_r_188 F_r_188_coder F_r_188_value V_ta_188 JK E_b190 F_b190_internalParameterEntity F_b190_internalGeneralEntity F_b190_attributeList F_b190_documentTypeDeclaration F_b190_declaringBytes F_b190_bytes F_b190_stretch F_b190_started 
    · skip
      refine WP.st (T' := T191) (f' := (mkF m 38 #[.val (.int p1), .val (.int p2), .val (.int p3), .val (.ref r_186), .val (.ref r_188), .val (.ref b190), .val (.int (0 : Int32)), .val (.int (0 : Int32)), .val (.int (0 : Int32)), .unset, .unset] [(.ref r_186), (.ref b190)])) (fun t k => ?_) ?_
      · refine XS.aload X191.here hx rfl (hb hby at_35) rfl rfl ?_
        show Steps p.tables e below (T191.setTop (mkF m 37 #[.val (.int p1), .val (.int p2), .val (.int p3), .val (.ref r_186), .val (.ref r_188), .val (.ref b190), .val (.int (0 : Int32)), .val (.int (0 : Int32)), .val (.int (0 : Int32)), .unset, .unset] [(.ref b190)])) t
        refine XS.aloadN X191.here hx rfl (hb hby at_37) rfl rfl ?_
        exact k
      subst hsE
      obtain ⟨cq239, kq239, q239a, q239b, q239c⟩ := isOf hZ e191 E_b190
      obtain ⟨_, _, ⟨T239, L239, k239, n239⟩, -, X239, SJ239, gr239, ⟨Lc239, hQ239, l239, y239, z239⟩, st239⟩ := X191.virtualBackS hx (y := (⟨"com/example/skope/skope/xml/Intake", "addInternalEntity", "(Ljava/lang/String;)V"⟩ : MethodName)) (z := (⟨"com/example/skope/skope/xml/Intake", "addInternalEntity", "(Ljava/lang/String;)V"⟩ : MethodName)) hown (mvT hZ (w_58 hw)) (mvT hZ (w_59 hw)) (notFace_of_selects (args := #[]) (mvT hZ (w_61 hw))) (mvT hZ (w_61 hw)) (mvT hZ (w_60 hw)) (by decide) (own_backOfJ (J := own_POK Z h191) (W := 0) (rm10n l Z a0 hw [] b190 r_186 (0 : Int32) (0 : Int32) (0 : Int32) (0 : Int32) (0 : Int64) (0 : Int64) (0 : Int64) (0 : Int32) ta_186 kb_186 cs_186 gC h191 n0 Z0 E_b190 g_b190 F_b190_internalParameterEntity F_b190_internalGeneralEntity F_b190_attributeList F_b190_documentTypeDeclaration F_b190_declaringBytes F_b190_bytes F_b190_stretch F_b190_started E_r_186 F_r_186_value F_r_186_coder V_ta_186 (hcs_186 : ∀ c ∈ cs_186, own_byte c) (hcl_186 : cs_186.length ≤ 2) OLD (O2 : Sta Z Z.heap "java/lang/String" "COMPACT_STRINGS" "Z" (.int gC)) (hz : ¬ gC = (0 : Int32)) (hCHP : Jvm.Lit.constHeld Z "com/example/skope/skope/xml/Intake" 64) (hCW : Jvm.Lit.compactW.before a0 Z = true) hc234) hZ (fun _ q => own_POK.mv (s := s0.setVm vmw) JK q) (w_62 hw) (w_39 hw) (by decide) (by decide)) q239a q239c (g := (mkF m 38 #[.val (.int p1), .val (.int p2), .val (.int p3), .val (.ref r_186), .val (.ref r_188), .val (.ref b190), .val (.int (0 : Int32)), .val (.int (0 : Int32)), .val (.int (0 : Int32)), .unset, .unset] [(.ref r_186), (.ref b190)])) rfl (by rw [hml]; rfl) (Steps.refl _) (argsL := [(.ref r_186)]) (rest := []) (lenOf pd_15 rfl) rfl (by show 2 * 0 + _ ≤ _; exact Nat.le_of_eq rfl) (hb hby at_38) (fun _ _ => ⟨rfl, e191, (by decide : 10 + 2 ≤ _), (by decide : 31 + 8 ≤ _)⟩)
      dsimp only [Pt.U, Pt.locs, Pt.cells, Pt.slots] at X239 l239 y239 z239 st239 hQ239 SJ239 gr239
      subst l239 y239 z239
      have SI239 := foldS SI (T := T191) (Nat.le_trans W0 (Nat.le_of_eq (by rw [e191]))) SJ239 gr239
      have hZ239 := State.Warmed39.trans (t := s0.setVm vmw) hZ SJ239.1
      have hown239 : T239.vm.findClass "com/example/skope/skope/xml/IntakeReplacedUncountedPinLaw" = some m.cls := by rw [SJ239.1.alike.findClass]; exact hown
      obtain ⟨rfl, Nq239, Kq239, nF239_b190_internalParameterEntity, nF239_b190_internalGeneralEntity, nF239_b190_attributeList, nF239_b190_documentTypeDeclaration, nF239_b190_declaringBytes, nF239_b190_bytes, nF239_b190_stretch, nF239_b190_started, nJ239⟩ := hQ239
      replace NF := Fr.app NF Nq239
      clear Nq239
      refine WP.tr st239 ?_
      clear st239
      obtain ⟨h239, e239⟩ : ∃ h, T239.heap = h := ⟨_, rfl⟩
      clear JK
      rw [e239] at Kq239 nF239_b190_internalParameterEntity nF239_b190_internalGeneralEntity nF239_b190_attributeList nF239_b190_documentTypeDeclaration nF239_b190_declaringBytes nF239_b190_bytes nF239_b190_stretch nF239_b190_started nJ239
      replace OLD := OLD.keep Kq239 (allS g_b190 all0)
      replace E_r_186 := E_r_186.keep Kq239
      replace F_r_186_coder := F_r_186_coder.keep Kq239 (by exact ninS ne_r_186_b190 (nin0))
      replace F_r_186_value := F_r_186_value.keep Kq239 (by exact ninS ne_r_186_b190 (nin0))
      replace V_ta_186 := V_ta_186.keep Kq239 (by exact ninS ne_ta_186_b190 (nin0))
      replace E_r_188 := E_r_188.keep Kq239
      replace F_r_188_coder := F_r_188_coder.keep Kq239 (by exact ninS ne_r_188_b190 (nin0))
      replace F_r_188_value := F_r_188_value.keep Kq239 (by exact ninS ne_r_188_b190 (nin0))
      replace V_ta_188 := V_ta_188.keep Kq239 (by exact ninS ne_ta_188_b190 (nin0))
      replace E_b190 := E_b190.keep Kq239
      clear F_b190_dropsNames
      clear F_b190_internalParameterEntity
      clear F_b190_internalGeneralEntity
      clear F_b190_attributeList
      clear F_b190_documentTypeDeclaration
      clear F_b190_declaringBytes
      clear F_b190_bytes
      clear F_b190_stretch
      clear F_b190_started
      replace Z0 := Nat.le_trans Z0 Kq239.1
      replace W0 := Nat.le_trans W0 Kq239.1
      clear Kq239
      have F_b190_internalParameterEntity := nF239_b190_internalParameterEntity
      clear nF239_b190_internalParameterEntity
      have F_b190_internalGeneralEntity := nF239_b190_internalGeneralEntity
      clear nF239_b190_internalGeneralEntity
      have F_b190_attributeList := nF239_b190_attributeList
      clear nF239_b190_attributeList
      have F_b190_documentTypeDeclaration := nF239_b190_documentTypeDeclaration
      clear nF239_b190_documentTypeDeclaration
      have F_b190_declaringBytes := nF239_b190_declaringBytes
      clear nF239_b190_declaringBytes
      have F_b190_bytes := nF239_b190_bytes
      clear nF239_b190_bytes
      have F_b190_stretch := nF239_b190_stretch
      clear nF239_b190_stretch
      have F_b190_started := nF239_b190_started
      clear nF239_b190_started
      clear W0
      have W0 : T239.heap.size ≤ h239.size := Nat.le_of_eq (by rw [e239])
      clear hZ hown SI
      obtain ⟨vmw, hvw⟩ : ∃ z, z = T239.vm := ⟨_, rfl⟩
      replace hZ239 : Z.Warmed39 vmw := by rw [hvw]; exact hZ239
      replace hown239 : vmw.findClass "com/example/skope/skope/xml/IntakeReplacedUncountedPinLaw" = some m.cls := by rw [hvw]; exact hown239
      have SI := SI239
      clear SI239
      rw [← hvw] at SI
      have JK : own_POK Z h239 vmw := by rw [hvw]; exact nJ239
      clear nJ239
      obtain ⟨s, hsE⟩ : ∃ z, z = s0.setVm vmw := ⟨_, rfl⟩
      have hX : ∃ LL, Stand p l e room_1 s m #[(.int p1), (.int p2), (.int p3)] below meth c T239 LL 12 39 ∧ Fr n0 LL := ⟨_, (by rw [hsE, hvw]; exact X239), NF⟩
      clear X239 NF
      obtain ⟨LL239, X239, NF⟩ := hX
      clear hvw
      have hZ : Z.Warmed39 s.vm := by rw [hsE]; exact hZ239
      have hown : s.vm.findClass "com/example/skope/skope/xml/IntakeReplacedUncountedPinLaw" = some m.cls := by rw [hsE]; exact hown239
      clear hZ239 hown239
      have hXN : ∃ LL, Stand p l e room_1 s m #[(.int p1), (.int p2), (.int p3)] below meth c T239 LL 12 39 ∧ Fr n0 LL := ⟨_, X239, NF⟩
      clear X239 NF
      obtain ⟨LL240, X239, NF⟩ := hXN
      show WP p.tables e below _ T239 (mkF m 41 #[.val (.int p1), .val (.int p2), .val (.int p3), .val (.ref r_186), .val (.ref r_188), .val (.ref b190), .val (.int (0 : Int32)), .val (.int (0 : Int32)), .val (.int (0 : Int32)), .unset, .unset] [])
      refine WP.st (T' := T239) (f' := (mkF m 42 #[.val (.int p1), .val (.int p2), .val (.int p3), .val (.ref r_186), .val (.ref r_188), .val (.ref b190), .val (.int (0 : Int32)), .val (.int (0 : Int32)), .val (.int (0 : Int32)), .unset, .unset] [(.ref r_186)])) (fun t k => ?_) ?_
      · refine XS.aloadN X239.here hx rfl (hb hby at_41) rfl rfl ?_
        exact k
      obtain ⟨_, _, ⟨T241, L241, k241, n241⟩, -, X241, ⟨Lc241, hQ241, l241, y241, z241⟩, st241⟩ := Jvm.LawKit.callS X239 hx (y := (⟨"com/example/skope/skope/xml/IntakeReplacedUncountedPinLaw", "isParam", "(Ljava/lang/String;)Z"⟩ : MethodName)) hown (mvT hZ (w_84 hw)) (mvT hZ (w_85 hw)) (mvT hZ (w_2 hw)) (mvT hZ (w_86 hw)) (by decide) (backOf (W := 0) (rm15 l Z a0 hw [] r_186 ta_186 kb_186 cs_186 gC gF h239 n0 Z0 E_r_186 F_r_186_value F_r_186_coder V_ta_186 (hcs_186 : ∀ c ∈ cs_186, own_byte c) (hcl_186 : cs_186.length ≤ 2) OLD (O2 : Sta Z Z.heap "java/lang/String" "COMPACT_STRINGS" "Z" (.int gC)) (hz : ¬ gC = (0 : Int32)) (O4 : Sta Z Z.heap "jdk/internal/util/Preconditions" "SIOOBE_FORMATTER" "Ljava/util/function/BiFunction;" gF) (rf : gF.isRef = true)) hZ (w_86 hw) (w_2 hw) (by decide) (by decide)) (g := (mkF m 42 #[.val (.int p1), .val (.int p2), .val (.int p3), .val (.ref r_186), .val (.ref r_188), .val (.ref b190), .val (.int (0 : Int32)), .val (.int (0 : Int32)), .val (.int (0 : Int32)), .unset, .unset] [(.ref r_186)])) rfl (by rw [hml]; rfl) (argsL := [(.ref r_186)]) (rest := []) (lenOf pd_11 rfl) rfl (by show 2 * 0 + _ ≤ _; exact Nat.le_of_eq rfl) (hb hby at_42) (fun _ _ => ⟨rfl, e239, (by decide : 12 + 0 ≤ _), (by decide : 39 + 0 ≤ _)⟩)
      dsimp only [Pt.U, Pt.locs, Pt.cells, Pt.slots] at X241 l241 y241 z241 st241 hQ241
      subst l241 y241 z241
      obtain ⟨rfl, Nq241, Kq241⟩ := hQ241
      replace NF := Fr.app NF Nq241
      clear Nq241
      refine WP.st st241 ?_
      clear st241
      replace Kq241 := Kq241.trans (rfl : h239 = h239)
      have hXN : ∃ LL, Stand p l e room_1 s m #[(.int p1), (.int p2), (.int p3)] below meth c T241 LL 12 39 ∧ Fr n0 LL := ⟨_, X241, NF⟩
      clear X241 NF
      obtain ⟨LL242, X241, NF⟩ := hXN
      show WP p.tables e below _ T241 (mkF m 45 #[.val (.int p1), .val (.int p2), .val (.int p3), .val (.ref r_186), .val (.ref r_188), .val (.ref b190), .val (.int (0 : Int32)), .val (.int (0 : Int32)), .val (.int (0 : Int32)), .unset, .unset] [(.int (own_isP cs_186))])
      rw [show (own_isP cs_186) = (0 : Int32) from own_isP_n hc234]
      show WP p.tables e below _ T241 (mkF m 45 #[.val (.int p1), .val (.int p2), .val (.int p3), .val (.ref r_186), .val (.ref r_188), .val (.ref b190), .val (.int (0 : Int32)), .val (.int (0 : Int32)), .val (.int (0 : Int32)), .unset, .unset] [(.int (0 : Int32))])
      refine WP.st (T' := T241) (f' := (mkF m 57 #[.val (.int p1), .val (.int p2), .val (.int p3), .val (.ref r_186), .val (.ref r_188), .val (.ref b190), .val (.int (0 : Int32)), .val (.int (1 : Int32)), .val (.int (0 : Int32)), .unset, .unset] [])) (fun t k => ?_) ?_
      · refine XS.ifYes X241.here hx rfl (pc0 := 45) (pc' := 54) rfl (hb hby at_45) rfl ((if0 _ _).trans (teq (by decide : (0 : Int32) = (0 : Int32))).1) (by decide) (by decide) ?_
        show Steps p.tables e below (T241.setTop (mkF m 54 #[.val (.int p1), .val (.int p2), .val (.int p3), .val (.ref r_186), .val (.ref r_188), .val (.ref b190), .val (.int (0 : Int32)), .val (.int (0 : Int32)), .val (.int (0 : Int32)), .unset, .unset] [])) t
        refine XS.iconst X241.here hx rfl (hb hby at_54) ?_
        show Steps p.tables e below (T241.setTop (mkF m 55 #[.val (.int p1), .val (.int p2), .val (.int p3), .val (.ref r_186), .val (.ref r_188), .val (.ref b190), .val (.int (0 : Int32)), .val (.int (0 : Int32)), .val (.int (0 : Int32)), .unset, .unset] [(.int (1 : Int32))])) t
        refine XS.istore X241.here hx rfl (hb hby at_55) rfl (l' := #[.val (.int p1), .val (.int p2), .val (.int p3), .val (.ref r_186), .val (.ref r_188), .val (.ref b190), .val (.int (0 : Int32)), .val (.int (1 : Int32)), .val (.int (0 : Int32)), .unset, .unset]) rfl ?_
        exact k
      exact J193 _ _ _ _ _ _ (0 : Int32) (1 : Int32) (0 : Int32) (0 : Int32) (0 : Int64) hsE SI W0 hZ hown (ownWider X241 (by decide) (by decide)) Kq241 NF Z0 OLD E_r_186 F_r_186_coder F_r_186_value V_ta_186 E_r_188 F_r_188_coder F_r_188_value V_ta_188 JK E_b190 F_b190_internalParameterEntity F_b190_internalGeneralEntity F_b190_attributeList F_b190_documentTypeDeclaration F_b190_declaringBytes F_b190_bytes F_b190_stretch F_b190_started 
set_option maxRecDepth 65536 in
set_option maxHeartbeats 40000000 in
theorem comes_1 {Post : Tables → Env → Array Value → State → Outcome → State → Prop} (hpost : ∀ tb e args s v u, (limb_1_1.after args s (.returned v) u = true ∧ limb_1_2.after args s (.returned v) u = true ∧ True) → ReturnedEndW s (.returned v) u (Jvm.fieldLocs frame_1_writes args s ++ Jvm.arrayLocs frame_1_arrays args s ++ Jvm.staticLocs frame_1_statics s) 32 2240 → Post tb e args s (.returned v) u) :
    ArmFor flags0 classFile x code maxLocals ret World_1 tables_1 room_1 Calls_1 rest_1 Pre_1 Post := by
  intro l hfl _ _ p e ha hc hk s m args below hf hA hF happ hP
  obtain ⟨hcalls, hrest, hpre⟩ := hP
  obtain ⟨-, -, -, hnamed, -, -, -, hat⟩ := (Spec.applies_iff hf).mp happ
  obtain ⟨hg, hn⟩ := and_e (Cond.before_iff.mp (show (Jvm.Cond.and given_1 narrow_1).before args s = true from hpre))
  obtain ⟨gg1, gg2⟩ := and_e hg
  obtain ⟨gg3, gg4⟩ := and_e gg2
  obtain ⟨gg5, gg6⟩ := and_e gg4
  obtain ⟨w0, w1, w2, rfl⟩ : ∃ w0 w1 w2 : Value, args = #[w0, w1, w2] := by
    have hs : args.size = 3 := by simpa [Cond.value, given_1] using gg1
    obtain ⟨L⟩ := args
    match L, hs with
    | [w0, w1, w2], _ => exact ⟨w0, w1, w2, rfl⟩
  have hw := fun d (hd : d ∈ tables_1) => atoms_spec (ws := Jvm.Cond.code x code maxLocals ret :: tables_1) hat d (List.mem_cons_of_mem _ hd)
  have hfit : Fit s := fun {y c} hc i hi => by
    obtain ⟨ha, rfl⟩ := Array.getElem?_eq_some_iff.mp hc
    have q := List.all_eq_true.mp ((Array.all_eq_true_iff_forall_mem.mp hF) _ (Array.getElem_mem ha)) i (List.mem_range.mpr hi)
    simpa [Array.getElem?_eq_getElem hi] using q
  obtain ⟨hsets, hown0⟩ := atoms_of _ (rest_1_c_eq ▸ (show rest_1_c.before _ s = true from hrest))
  have hr0 := Cond.before_iff.mp hown0
  obtain ⟨i0, ei0⟩ := is_v gg3
  obtain rfl : w0 = (.int i0) := Option.some.inj ei0
  obtain ⟨i1, ei1⟩ := is_v gg5
  obtain rfl : w1 = (.int i1) := Option.some.inj ei1
  obtain ⟨i2, ei2⟩ := is_v gg6
  obtain rfl : w2 = (.int i2) := Option.some.inj ei2
  obtain ⟨gC, eC⟩ := is_v (Cond.before_iff.mp (hsets _ (List.mem_of_getElem? (i := 1) rfl)))
  have O2 : Sta s s.heap "java/lang/String" "COMPACT_STRINGS" "Z" (.int gC) := Sta.start eC (Or.inl (hsets _ (List.mem_of_getElem? (i := 0) rfl)))
  have hz : ¬ (gC = (0 : Int32)) := gotF (Cond.eq_ints eC (Term.int_eval (0))) (not_v (Cond.before_iff.mp (hsets _ (List.mem_of_getElem? (i := 2) rfl))))
  obtain ⟨gF, eF, rf⟩ := isR_v (Cond.before_iff.mp (hsets _ (List.mem_of_getElem? (i := 8) rfl)))
  have O4 : Sta s s.heap "jdk/internal/util/Preconditions" "SIOOBE_FORMATTER" "Ljava/util/function/BiFunction;" gF := Sta.start eF (Or.inl (hsets _ (List.mem_of_getElem? (i := 7) rfl)))
  obtain ⟨n, o, h1, h2, h3, _, L, rfl, ⟨rfl, N⟩, hq⟩ := rm0 l s _ hw tables_1 i0 i1 i2 gC gF s.heap s.heap.size (Nat.le_refl _) (Old.start s) O2 hz O4 rf (hcalls.1 ("java/lang/String", 7) (by decide)) (hsets _ (List.mem_of_getElem? (i := 2) rfl)) (hcalls.1 ("com/example/skope/skope/xml/Intake", 64) (by decide)) p e ha hc hk s m _ below hf ((Spec.applies_iff_loose hf).mp happ).1 ⟨rfl, State.Warmed39.refl s, rfl, Or.inl IB.start⟩ trivial
  refine ⟨n, _, h1, h2, h3, hpost _ _ _ _ _ _ ⟨Cond.after_iff.mpr rfl, Cond.after_iff.mpr (eq_i res_at (Term.int_eval (1)) rfl), trivial⟩ ⟨hq.1, hq.2.1, hq.2.2.1, (hq.2.2.2.sift fun y hy => Or.inr (N y hy)).mono (by decide) (by decide)⟩⟩
theorem main_1_1 : Claimed_1_1 := comes_1 fun _ _ _ _ _ _ h hF => ⟨h.1, hF⟩
theorem main_1_2 : Claimed_1_2 := comes_1 fun _ _ _ _ _ _ h hF => ⟨h.2.1, hF⟩
end Jvm.Pilot.@@N@@
namespace Jvm.Pilot.@@N@@
open Jvm Jvm.ClassFile Sem Op Lib Jvm.Free Jvm.Stand Jvm.Pilot.@@N@@.Jvm.D
/-! MADE BY PROGRAM (witnessworld.py) out of the Statement's table words and the real class files: 20 classes; the members and pool entries that the words name. The judged class is class 1, her method 3. -/
namespace start1
open Jvm.ClassFile
def u (s : String) : CpInfo := .utf8 (stringToUtf16 s)
/-- a pool by its gaps: so many unusable entries, then the entry; so many at the end -/
def gap : Nat → List CpInfo → List CpInfo
  | 0, r => r
  | n + 1, r => .unusable :: gap n r
def poolList (es : List (Nat × CpInfo)) (last : Nat) : List CpInfo := es.foldr (fun e r => gap e.1 (e.2 :: r)) (gap last [])
def pool (es : List (Nat × CpInfo)) (last : Nat) : Array CpInfo := ⟨poolList es last⟩
def fileOf (pool : Array CpInfo) (this : Nat) (attrs : Array Attribute := #[]) (ms : Array MethodInfo := #[]) (fl : Nat := 33) (sup : Nat := 0) (ifs : Array Nat := #[]) (fds : Array FieldInfo := #[]) : ClassFile where
  minorVersion := 0
  majorVersion := 65
  constantPool := pool
  accessFlags := fl
  thisClass := this
  superClass := sup
  interfaces := ifs
  fields := fds
  methods := ms
  attributes := attrs
def plain (name : String) (sup : Option ClassId) : Class where
  name := name
  kind := .ordinary
  loader := none
  accessFlags := 33
  super := sup
  interfaces := #[]
  cf := none
  fields := #[]
  methods := #[]
  instanceTypes := #[]
  staticTypes := #[]
  resolved := #[]
  callSites := []
  init := .initialized
  statics := none
  mirror := none

def pool0 : Array CpInfo := pool [(5, u "<init>"), (0, u "()V"), (1, .class_ 10), (1, u "java/lang/Object")] 113

def k0c0 : Code := { maxStack := 0, maxLocals := 1, code := object_method_1_code, exceptionTable := #[], attributes := #[] }
def k0m0 : Method := { name := "<init>", desc := "()V", sig := { parameters := [], returnType := none }, accessFlags := 1, code := some k0c0 }
/-- java/lang/Object -/
def k0 : Class := { plain "java/lang/Object" none with
  accessFlags := 33
  interfaces := #[]
  cf := some (fileOf pool0 8 #[] #[{ accessFlags := 1, nameIndex := 5, descriptorIndex := 6, attributes := #[] }] 33 0 #[] #[])
  fields := #[]
  methods := #[k0m0]
  instanceTypes := #[]
  staticTypes := #[]
  resolved := Array.replicate 124 none
  statics := none }

def pool1 : Array CpInfo := pool [(2, .class_ 4), (0, .nameAndType 5 6), (0, u "java/lang/Object"), (0, u "<init>"), (0, u "()V"), (0, .class_ 8), (0, u "java/lang/String"), (0, .methodref 7 10), (0, .nameAndType 5 11), (0, u "([C)V"), (0, .methodref 7 13), (0, .nameAndType 14 15), (0, u "valueOf"), (0, u "(C)Ljava/lang/String;"), (0, .methodref 7 17), (0, .nameAndType 18 19), (0, u "length"), (0, u "()I"), (0, .methodref 7 21), (0, .nameAndType 22 23), (0, u "charAt"), (0, u "(I)C"), (0, .methodref 25 26), (0, .class_ 27), (0, .nameAndType 28 29), (0, u "com/example/skope/skope/xml/IntakeReplacedUncountedPinLaw"), (0, u "name"), (0, u "(I)Ljava/lang/String;"), (0, .class_ 31), (0, u "com/example/skope/skope/xml/Intake"), (0, .methodref 30 3), (0, .methodref 30 34), (0, .nameAndType 35 36), (0, u "addInternalEntity"), (0, u "(Ljava/lang/String;)V"), (0, .methodref 25 38), (0, .nameAndType 39 40), (0, u "isParam"), (0, u "(Ljava/lang/String;)Z"), (0, .methodref 30 42), (0, .nameAndType 43 6), (0, u "addAttributeList"), (0, .methodref 30 45), (0, .nameAndType 46 6), (0, u "addDocumentTypeDeclaration"), (0, .methodref 30 48), (0, .nameAndType 49 50), (0, u "replacedUncounted"), (0, u "()Z"), (0, .methodref 30 52), (0, .nameAndType 53 6), (0, u "clear"), (3, u "law"), (0, u "(III)Z")] 2

def k1m0 : Method := { name := "<init>", desc := "()V", sig := { parameters := [], returnType := none }, accessFlags := 2, code := none }
def k1c1 : Code := { maxStack := 6, maxLocals := 4, code := method_2_code, exceptionTable := #[], attributes := #[] }
def k1m1 : Method := { name := "name", desc := "(I)Ljava/lang/String;", sig := { parameters := [.int], returnType := some (.object "java/lang/String") }, accessFlags := 10, code := some k1c1 }
def k1c2 : Code := { maxStack := 2, maxLocals := 1, code := method_3_code, exceptionTable := #[], attributes := #[] }
def k1m2 : Method := { name := "isParam", desc := "(Ljava/lang/String;)Z", sig := { parameters := [(.object "java/lang/String")], returnType := some .boolean }, accessFlags := 10, code := some k1c2 }
def k1c3 : Code := { maxStack := 2, maxLocals := 11, code := code, exceptionTable := #[], attributes := #[] }
def k1m3 : Method := { name := "law", desc := "(III)Z", sig := { parameters := [.int, .int, .int], returnType := some .boolean }, accessFlags := 9, code := some k1c3 }
/-- com/example/skope/skope/xml/IntakeReplacedUncountedPinLaw -/
def k1 : Class := { plain "com/example/skope/skope/xml/IntakeReplacedUncountedPinLaw" (some 0) with
  accessFlags := 49
  interfaces := #[]
  cf := some (fileOf pool1 25 #[] #[{ accessFlags := 2, nameIndex := 5, descriptorIndex := 6, attributes := #[] }, { accessFlags := 10, nameIndex := 28, descriptorIndex := 29, attributes := #[] }, { accessFlags := 10, nameIndex := 39, descriptorIndex := 40, attributes := #[] }, { accessFlags := 9, nameIndex := 57, descriptorIndex := 58, attributes := #[] }] 49 2 #[] #[])
  fields := #[]
  methods := #[k1m0, k1m1, k1m2, k1m3]
  instanceTypes := #[]
  staticTypes := #[]
  resolved := Array.replicate 61 none
  statics := none }

def pool2 : Array CpInfo := pool [(1, .class_ 2), (0, u "java/io/Serializable"), (0, .class_ 4), (0, u "java/lang/Object")] 2

/-- java/io/Serializable -/
def k2 : Class := { plain "java/io/Serializable" (some 0) with
  accessFlags := 1537
  interfaces := #[]
  cf := some (fileOf pool2 1 #[] #[] 1537 3 #[] #[])
  fields := #[]
  methods := #[]
  instanceTypes := #[]
  staticTypes := #[]
  resolved := Array.replicate 7 none
  statics := none }

def pool3 : Array CpInfo := pool [(1, .class_ 2), (0, u "java/lang/Comparable"), (0, .class_ 4), (0, u "java/lang/Object")] 7

/-- java/lang/Comparable -/
def k3 : Class := { plain "java/lang/Comparable" (some 0) with
  accessFlags := 1537
  interfaces := #[]
  cf := some (fileOf pool3 1 #[] #[] 1537 3 #[] #[])
  fields := #[]
  methods := #[]
  instanceTypes := #[]
  staticTypes := #[]
  resolved := Array.replicate 12 none
  statics := none }

def pool4 : Array CpInfo := pool [(2, .class_ 4), (1, u "java/lang/CharSequence"), (42, .class_ 48), (0, u "java/lang/CharSequence$1CodePointIterator"), (10, .class_ 60), (0, u "java/lang/CharSequence$1CharIterator"), (5, .class_ 67), (0, u "java/lang/Object")] 63

/-- java/lang/CharSequence -/
def k4 : Class := { plain "java/lang/CharSequence" (some 0) with
  accessFlags := 1537
  interfaces := #[]
  cf := some (fileOf pool4 2 #[.nestMembers #[47, 59]] #[] 1537 66 #[] #[])
  fields := #[]
  methods := #[]
  instanceTypes := #[]
  staticTypes := #[]
  resolved := Array.replicate 131 none
  statics := none }

def pool5 : Array CpInfo := pool [(1, .class_ 2), (0, u "java/lang/constant/Constable"), (0, .class_ 4), (0, u "java/lang/Object")] 6

/-- java/lang/constant/Constable -/
def k5 : Class := { plain "java/lang/constant/Constable" (some 0) with
  accessFlags := 1537
  interfaces := #[]
  cf := some (fileOf pool5 1 #[] #[] 1537 3 #[] #[])
  fields := #[]
  methods := #[]
  instanceTypes := #[]
  staticTypes := #[]
  resolved := Array.replicate 11 none
  statics := none }

def pool6 : Array CpInfo := pool [(1, .class_ 2), (0, u "java/lang/constant/ConstantDesc"), (0, .class_ 4), (0, u "java/lang/Object")] 32

/-- java/lang/constant/ConstantDesc -/
def k6 : Class := { plain "java/lang/constant/ConstantDesc" (some 0) with
  accessFlags := 1537
  interfaces := #[]
  cf := some (fileOf pool6 1 #[] #[] 1537 3 #[] #[])
  fields := #[]
  methods := #[]
  instanceTypes := #[]
  staticTypes := #[]
  resolved := Array.replicate 37 none
  statics := none }

def pool7 : Array CpInfo := pool [(1, .methodref 2 3), (0, .class_ 4), (0, .nameAndType 5 6), (0, u "java/lang/Object"), (0, u "<init>"), (0, u "()V"), (0, .string 8), (0, u ""), (0, .fieldref 10 11), (0, .class_ 12), (0, .nameAndType 13 14), (0, u "java/lang/String"), (0, u "value"), (0, u "[B"), (0, .fieldref 10 16), (0, .nameAndType 17 18), (0, u "coder"), (0, u "B"), (2, u "hash"), (0, u "I"), (2, u "hashIsZero"), (0, u "Z"), (0, .methodref 10 28), (0, .nameAndType 5 29), (0, u "([CIILjava/lang/Void;)V"), (8, .fieldref 10 39), (0, .nameAndType 40 26), (0, u "COMPACT_STRINGS"), (1, .class_ 44), (1, u "java/lang/StringUTF16"), (0, u "compress"), (1, .methodref 42 48), (0, .nameAndType 49 50), (0, u "coderFromArrayLen"), (0, u "([BI)B"), (2, u "toBytes"), (53, .class_ 109), (1, u "java/lang/StringLatin1"), (32, u "()Z"), (34, .methodref 42 178), (0, .nameAndType 45 179), (0, u "([CII)[B"), (29, .methodref 10 210), (0, .nameAndType 5 211), (0, u "([BB)V"), (122, u "()I"), (0, .methodref 10 336), (0, .nameAndType 17 337), (0, u "()B"), (25, u "([BI)C"), (5, u "(C)Z"), (6, u "([BI[BII)I"), (14, u "(II)V"), (35, u "(I)C"), (64, .methodref 10 493), (0, .nameAndType 494 142), (0, u "isLatin1"), (0, .methodref 107 496), (0, .nameAndType 497 363), (0, u "charAt"), (3, u "checkIndex"), (3, .methodref 10 506), (0, .nameAndType 507 334), (0, u "length"), (51, .class_ 561), (1, u "jdk/internal/util/ArraysSupport"), (0, u "mismatch"), (12, .class_ 576), (0, u "java/lang/CharSequence"), (22, u "CASE_INSENSITIVE_ORDER"), (0, u "Ljava/util/Comparator;"), (6, .methodref 559 608), (0, .nameAndType 562 376), (15, .methodref 10 625), (0, .nameAndType 626 627), (0, u "startsWith"), (0, u "(Ljava/lang/String;I)Z"), (154, u "valueOf"), (0, u "(C)Ljava/lang/String;"), (226, u "([C)V"), (4, .methodref 107 1016), (0, .nameAndType 1017 369), (0, u "canEncode"), (0, .methodref 107 1019), (0, .nameAndType 53 1020), (0, u "(C)[B"), (32, .fieldref 1054 1055), (0, .class_ 1056), (0, .nameAndType 1057 1058), (0, u "jdk/internal/util/Preconditions"), (0, u "SIOOBE_FORMATTER"), (0, u "Ljava/util/function/BiFunction;"), (0, .methodref 1054 1060), (0, .nameAndType 501 1061), (0, u "(IILjava/util/function/BiFunction;)I"), (39, u "serialPersistentFields"), (0, u "[Ljava/io/ObjectStreamField;"), (0, .class_ 1104), (0, u "java/lang/String$CaseInsensitiveComparator"), (1, .class_ 1107), (0, u "java/io/Serializable"), (0, .class_ 1109), (0, u "java/lang/Comparable"), (0, .class_ 1111), (0, u "java/lang/constant/Constable"), (0, .class_ 1113), (0, u "java/lang/constant/ConstantDesc"), (2, u "serialVersionUID"), (0, u "J"), (3, u "REPL"), (0, u "C"), (2, u "LATIN1"), (1, u "UTF16"), (129, u "(Ljava/lang/String;)Z")] 193

def k7m0 : Method := { name := "<init>", desc := "()V", sig := { parameters := [], returnType := none }, accessFlags := 1, code := none }
def k7c1 : Code := { maxStack := 5, maxLocals := 2, code := jdk_42_method_3_code, exceptionTable := #[], attributes := #[] }
def k7m1 : Method := { name := "<init>", desc := "([C)V", sig := { parameters := [(.array .char)], returnType := none }, accessFlags := 1, code := some k7c1 }
def k7c2 : Code := { maxStack := 2, maxLocals := 1, code := jdk_42_method_54_code, exceptionTable := #[], attributes := #[] }
def k7m2 : Method := { name := "length", desc := "()I", sig := { parameters := [], returnType := some .int }, accessFlags := 1, code := some k7c2 }
def k7c3 : Code := { maxStack := 2, maxLocals := 2, code := jdk_42_method_56_code, exceptionTable := #[], attributes := #[] }
def k7m3 : Method := { name := "charAt", desc := "(I)C", sig := { parameters := [.int], returnType := some .char }, accessFlags := 1, code := some k7c3 }
def k7c4 : Code := { maxStack := 5, maxLocals := 8, code := jdk_42_method_75_code, exceptionTable := #[], attributes := #[] }
def k7m4 : Method := { name := "startsWith", desc := "(Ljava/lang/String;I)Z", sig := { parameters := [(.object "java/lang/String"), .int], returnType := some .boolean }, accessFlags := 1, code := some k7c4 }
def k7c5 : Code := { maxStack := 3, maxLocals := 2, code := jdk_42_method_76_code, exceptionTable := #[], attributes := #[] }
def k7m5 : Method := { name := "startsWith", desc := "(Ljava/lang/String;)Z", sig := { parameters := [(.object "java/lang/String")], returnType := some .boolean }, accessFlags := 1, code := some k7c5 }
def k7c6 : Code := { maxStack := 4, maxLocals := 1, code := jdk_42_method_139_code, exceptionTable := #[], attributes := #[] }
def k7m6 : Method := { name := "valueOf", desc := "(C)Ljava/lang/String;", sig := { parameters := [.char], returnType := some (.object "java/lang/String") }, accessFlags := 9, code := some k7c6 }
def k7c7 : Code := { maxStack := 4, maxLocals := 6, code := jdk_42_method_149_code, exceptionTable := #[], attributes := #[] }
def k7m7 : Method := { name := "<init>", desc := "([CIILjava/lang/Void;)V", sig := { parameters := [(.array .char), .int, .int, (.object "java/lang/Void")], returnType := none }, accessFlags := 2, code := some k7c7 }
def k7c8 : Code := { maxStack := 2, maxLocals := 3, code := jdk_42_method_151_code, exceptionTable := #[], attributes := #[] }
def k7m8 : Method := { name := "<init>", desc := "([BB)V", sig := { parameters := [(.array .byte), .byte], returnType := none }, accessFlags := 0, code := some k7c8 }
def k7c9 : Code := { maxStack := 1, maxLocals := 1, code := jdk_42_method_152_code, exceptionTable := #[], attributes := #[] }
def k7m9 : Method := { name := "coder", desc := "()B", sig := { parameters := [], returnType := some .byte }, accessFlags := 0, code := some k7c9 }
def k7c10 : Code := { maxStack := 1, maxLocals := 1, code := jdk_42_method_154_code, exceptionTable := #[], attributes := #[] }
def k7m10 : Method := { name := "isLatin1", desc := "()Z", sig := { parameters := [], returnType := some .boolean }, accessFlags := 0, code := some k7c10 }
def k7c11 : Code := { maxStack := 3, maxLocals := 2, code := jdk_42_method_155_code, exceptionTable := #[], attributes := #[] }
def k7m11 : Method := { name := "checkIndex", desc := "(II)V", sig := { parameters := [.int, .int], returnType := none }, accessFlags := 8, code := some k7c11 }
/-- java/lang/String -/
def k7 : Class := { plain "java/lang/String" (some 0) with
  accessFlags := 49
  interfaces := #[2, 3, 4, 5, 6]
  cf := some (fileOf pool7 10 #[.nestMembers #[1103]] #[{ accessFlags := 1, nameIndex := 5, descriptorIndex := 6, attributes := #[] }, { accessFlags := 1, nameIndex := 5, descriptorIndex := 1010, attributes := #[] }, { accessFlags := 1, nameIndex := 507, descriptorIndex := 334, attributes := #[] }, { accessFlags := 1, nameIndex := 497, descriptorIndex := 427, attributes := #[] }, { accessFlags := 1, nameIndex := 626, descriptorIndex := 627, attributes := #[] }, { accessFlags := 1, nameIndex := 626, descriptorIndex := 1257, attributes := #[] }, { accessFlags := 9, nameIndex := 782, descriptorIndex := 783, attributes := #[] }, { accessFlags := 2, nameIndex := 5, descriptorIndex := 29, attributes := #[] }, { accessFlags := 0, nameIndex := 5, descriptorIndex := 211, attributes := #[] }, { accessFlags := 0, nameIndex := 17, descriptorIndex := 337, attributes := #[] }, { accessFlags := 0, nameIndex := 494, descriptorIndex := 142, attributes := #[] }, { accessFlags := 8, nameIndex := 501, descriptorIndex := 391, attributes := #[] }] 49 2 #[1106, 1108, 575, 1110, 1112] #[{ accessFlags := 18, nameIndex := 13, descriptorIndex := 14, attributes := #[] }, { accessFlags := 18, nameIndex := 17, descriptorIndex := 18, attributes := #[] }, { accessFlags := 2, nameIndex := 21, descriptorIndex := 22, attributes := #[] }, { accessFlags := 2, nameIndex := 25, descriptorIndex := 26, attributes := #[] }, { accessFlags := 26, nameIndex := 1116, descriptorIndex := 1117, attributes := #[] }, { accessFlags := 24, nameIndex := 40, descriptorIndex := 26, attributes := #[] }, { accessFlags := 26, nameIndex := 1101, descriptorIndex := 1102, attributes := #[] }, { accessFlags := 26, nameIndex := 1121, descriptorIndex := 1122, attributes := #[] }, { accessFlags := 25, nameIndex := 599, descriptorIndex := 600, attributes := #[] }, { accessFlags := 24, nameIndex := 1125, descriptorIndex := 18, attributes := #[] }, { accessFlags := 24, nameIndex := 1127, descriptorIndex := 18, attributes := #[] }])
  fields := #[{ name := "value", type := (.array .byte), accessFlags := 18, slot := 0, constantValue := 0 }, { name := "coder", type := .byte, accessFlags := 18, slot := 1, constantValue := 0 }, { name := "hash", type := .int, accessFlags := 2, slot := 2, constantValue := 0 }, { name := "hashIsZero", type := .boolean, accessFlags := 2, slot := 3, constantValue := 0 }, { name := "serialVersionUID", type := .long, accessFlags := 26, slot := 0, constantValue := 0 }, { name := "COMPACT_STRINGS", type := .boolean, accessFlags := 24, slot := 1, constantValue := 0 }, { name := "serialPersistentFields", type := (.array (.object "java/io/ObjectStreamField")), accessFlags := 26, slot := 2, constantValue := 0 }, { name := "REPL", type := .char, accessFlags := 26, slot := 3, constantValue := 0 }, { name := "CASE_INSENSITIVE_ORDER", type := (.object "java/util/Comparator"), accessFlags := 25, slot := 4, constantValue := 0 }, { name := "LATIN1", type := .byte, accessFlags := 24, slot := 5, constantValue := 0 }, { name := "UTF16", type := .byte, accessFlags := 24, slot := 6, constantValue := 0 }]
  methods := #[k7m0, k7m1, k7m2, k7m3, k7m4, k7m5, k7m6, k7m7, k7m8, k7m9, k7m10, k7m11]
  instanceTypes := #[(.array .byte), .byte, .int, .boolean]
  staticTypes := #[.long, .boolean, (.array (.object "java/io/ObjectStreamField")), .char, (.object "java/util/Comparator"), .byte, .byte]
  resolved := Array.replicate 1451 none
  statics := some 0 }

def pool8 : Array CpInfo := pool [(6, .class_ 8), (1, u "java/lang/Object"), (0, u "<init>"), (0, u "()V"), (1, .class_ 14), (1, u "java/lang/StringUTF16"), (31, u "$assertionsDisabled"), (0, u "Z"), (13, u "HI_BYTE_SHIFT"), (0, u "I"), (2, u "LO_BYTE_SHIFT"), (49, .methodref 12 116), (0, .nameAndType 117 118), (0, u "compress"), (0, u "([CI[BII)I"), (3, u "([CII)[B"), (138, u "coderFromArrayLen"), (0, u "([BI)B"), (106, .class_ 371), (1, u "java/lang/StringUTF16$LinesSpliterator"), (58, u "MAX_LENGTH"), (196, .class_ 628), (0, u "java/lang/StringUTF16$CodePointsSpliterator"), (0, .class_ 630), (0, u "java/lang/StringUTF16$CharsSpliterator")] 4

def k8m0 : Method := { name := "<init>", desc := "()V", sig := { parameters := [], returnType := none }, accessFlags := 0, code := none }
def k8c1 : Code := { maxStack := 2, maxLocals := 2, code := jdk_52_method_15_code, exceptionTable := #[], attributes := #[] }
def k8m1 : Method := { name := "coderFromArrayLen", desc := "([BI)B", sig := { parameters := [(.array .byte), .int], returnType := some .byte }, accessFlags := 8, code := some k8c1 }
def k8c2 : Code := { maxStack := 5, maxLocals := 6, code := jdk_52_method_16_code, exceptionTable := #[], attributes := #[] }
def k8m2 : Method := { name := "compress", desc := "([CII)[B", sig := { parameters := [(.array .char), .int, .int], returnType := some (.array .byte) }, accessFlags := 9, code := some k8c2 }
def k8c3 : Code := { maxStack := 3, maxLocals := 7, code := jdk_52_method_21_code, exceptionTable := #[], attributes := #[] }
def k8m3 : Method := { name := "compress", desc := "([CI[BII)I", sig := { parameters := [(.array .char), .int, (.array .byte), .int, .int], returnType := some .int }, accessFlags := 9, code := some k8c3 }
/-- java/lang/StringUTF16 -/
def k8 : Class := { plain "java/lang/StringUTF16" (some 0) with
  accessFlags := 48
  interfaces := #[]
  cf := some (fileOf pool8 12 #[.nestMembers #[627, 629, 369]] #[{ accessFlags := 0, nameIndex := 9, descriptorIndex := 10, attributes := #[] }, { accessFlags := 8, nameIndex := 261, descriptorIndex := 262, attributes := #[] }, { accessFlags := 9, nameIndex := 117, descriptorIndex := 122, attributes := #[] }, { accessFlags := 9, nameIndex := 117, descriptorIndex := 118, attributes := #[] }] 48 6 #[] #[{ accessFlags := 26, nameIndex := 61, descriptorIndex := 62, attributes := #[] }, { accessFlags := 26, nameIndex := 65, descriptorIndex := 62, attributes := #[] }, { accessFlags := 24, nameIndex := 430, descriptorIndex := 62, attributes := #[] }, { accessFlags := 4120, nameIndex := 46, descriptorIndex := 47, attributes := #[] }])
  fields := #[{ name := "HI_BYTE_SHIFT", type := .int, accessFlags := 26, slot := 0, constantValue := 0 }, { name := "LO_BYTE_SHIFT", type := .int, accessFlags := 26, slot := 1, constantValue := 0 }, { name := "MAX_LENGTH", type := .int, accessFlags := 24, slot := 2, constantValue := 0 }, { name := "$assertionsDisabled", type := .boolean, accessFlags := 4120, slot := 3, constantValue := 0 }]
  methods := #[k8m0, k8m1, k8m2, k8m3]
  instanceTypes := #[]
  staticTypes := #[.int, .int, .int, .boolean]
  resolved := Array.replicate 635 none
  statics := none }

def pool9 : Array CpInfo := pool [(1, .methodref 2 3), (0, .class_ 4), (0, .nameAndType 5 6), (0, u "java/lang/Object"), (0, u "<init>"), (0, u "()V"), (0, .fieldref 8 9), (0, .class_ 10), (0, .nameAndType 11 12), (0, u "com/example/skope/skope/xml/Intake"), (0, u "longestValues"), (0, u "[I"), (0, .fieldref 8 14), (0, .nameAndType 15 16), (0, u "dropsNames"), (0, u "Z"), (0, .class_ 18), (0, u "com/example/skope/skope/xml/Intake$CountedStream"), (3, .fieldref 8 23), (0, .nameAndType 24 16), (0, u "started"), (2, u "longestStretch"), (0, u "J"), (6, u "valueChars"), (13, .class_ 51), (1, u "java/lang/String"), (10, u "nesting"), (0, u "I"), (0, .string 65), (0, u "%"), (0, .methodref 49 67), (0, .nameAndType 68 69), (0, u "startsWith"), (0, u "(Ljava/lang/String;)Z"), (0, .fieldref 8 71), (0, .nameAndType 72 16), (0, u "internalParameterEntity"), (0, .fieldref 8 74), (0, .nameAndType 75 16), (0, u "internalGeneralEntity"), (0, .fieldref 8 77), (0, .nameAndType 78 16), (0, u "attributeList"), (0, .fieldref 8 80), (0, .nameAndType 81 16), (0, u "documentTypeDeclaration"), (0, .fieldref 8 83), (0, .nameAndType 84 28), (0, u "declaringBytes"), (2, u "passedOnDeclarations"), (2, u "passedOnChars"), (0, .fieldref 8 92), (0, .nameAndType 93 28), (0, u "bytes"), (0, .fieldref 8 95), (0, .nameAndType 96 28), (0, u "stretch"), (15, u "addInternalEntity"), (0, u "(Ljava/lang/String;)V"), (0, u "addAttributeList"), (0, u "replacedUncounted"), (0, u "()Z"), (0, u "addDocumentTypeDeclaration"), (4, u "clear")] 6

def k9c0 : Code := { maxStack := 2, maxLocals := 1, code := prog_26_method_1_code, exceptionTable := #[], attributes := #[] }
def k9m0 : Method := { name := "<init>", desc := "()V", sig := { parameters := [], returnType := none }, accessFlags := 0, code := some k9c0 }
def k9c1 : Code := { maxStack := 2, maxLocals := 2, code := prog_26_method_11_code, exceptionTable := #[], attributes := #[] }
def k9m1 : Method := { name := "addInternalEntity", desc := "(Ljava/lang/String;)V", sig := { parameters := [(.object "java/lang/String")], returnType := none }, accessFlags := 0, code := some k9c1 }
def k9c2 : Code := { maxStack := 2, maxLocals := 1, code := prog_26_method_12_code, exceptionTable := #[], attributes := #[] }
def k9m2 : Method := { name := "addAttributeList", desc := "()V", sig := { parameters := [], returnType := none }, accessFlags := 0, code := some k9c2 }
def k9c3 : Code := { maxStack := 1, maxLocals := 1, code := prog_26_method_13_code, exceptionTable := #[], attributes := #[] }
def k9m3 : Method := { name := "replacedUncounted", desc := "()Z", sig := { parameters := [], returnType := some .boolean }, accessFlags := 0, code := some k9c3 }
def k9c4 : Code := { maxStack := 2, maxLocals := 1, code := prog_26_method_14_code, exceptionTable := #[], attributes := #[] }
def k9m4 : Method := { name := "addDocumentTypeDeclaration", desc := "()V", sig := { parameters := [], returnType := none }, accessFlags := 0, code := some k9c4 }
def k9c5 : Code := { maxStack := 5, maxLocals := 1, code := prog_26_method_21_code, exceptionTable := #[], attributes := #[] }
def k9m5 : Method := { name := "clear", desc := "()V", sig := { parameters := [], returnType := none }, accessFlags := 0, code := some k9c5 }
/-- com/example/skope/skope/xml/Intake -/
def k9 : Class := { plain "com/example/skope/skope/xml/Intake" (some 0) with
  accessFlags := 48
  interfaces := #[]
  cf := some (fileOf pool9 8 #[.nestMembers #[17]] #[{ accessFlags := 0, nameIndex := 5, descriptorIndex := 6, attributes := #[] }, { accessFlags := 0, nameIndex := 112, descriptorIndex := 113, attributes := #[] }, { accessFlags := 0, nameIndex := 114, descriptorIndex := 6, attributes := #[] }, { accessFlags := 0, nameIndex := 115, descriptorIndex := 116, attributes := #[] }, { accessFlags := 0, nameIndex := 117, descriptorIndex := 6, attributes := #[] }, { accessFlags := 0, nameIndex := 122, descriptorIndex := 6, attributes := #[] }] 48 2 #[] #[{ accessFlags := 2, nameIndex := 96, descriptorIndex := 28, attributes := #[] }, { accessFlags := 2, nameIndex := 24, descriptorIndex := 16, attributes := #[] }, { accessFlags := 2, nameIndex := 93, descriptorIndex := 28, attributes := #[] }, { accessFlags := 2, nameIndex := 75, descriptorIndex := 16, attributes := #[] }, { accessFlags := 2, nameIndex := 72, descriptorIndex := 16, attributes := #[] }, { accessFlags := 2, nameIndex := 78, descriptorIndex := 16, attributes := #[] }, { accessFlags := 2, nameIndex := 81, descriptorIndex := 16, attributes := #[] }, { accessFlags := 2, nameIndex := 27, descriptorIndex := 28, attributes := #[] }, { accessFlags := 2, nameIndex := 62, descriptorIndex := 63, attributes := #[] }, { accessFlags := 2, nameIndex := 11, descriptorIndex := 12, attributes := #[] }, { accessFlags := 2, nameIndex := 35, descriptorIndex := 28, attributes := #[] }, { accessFlags := 2, nameIndex := 84, descriptorIndex := 28, attributes := #[] }, { accessFlags := 2, nameIndex := 87, descriptorIndex := 28, attributes := #[] }, { accessFlags := 2, nameIndex := 90, descriptorIndex := 28, attributes := #[] }, { accessFlags := 2, nameIndex := 15, descriptorIndex := 16, attributes := #[] }])
  fields := #[{ name := "stretch", type := .long, accessFlags := 2, slot := 0, constantValue := 0 }, { name := "started", type := .boolean, accessFlags := 2, slot := 1, constantValue := 0 }, { name := "bytes", type := .long, accessFlags := 2, slot := 2, constantValue := 0 }, { name := "internalGeneralEntity", type := .boolean, accessFlags := 2, slot := 3, constantValue := 0 }, { name := "internalParameterEntity", type := .boolean, accessFlags := 2, slot := 4, constantValue := 0 }, { name := "attributeList", type := .boolean, accessFlags := 2, slot := 5, constantValue := 0 }, { name := "documentTypeDeclaration", type := .boolean, accessFlags := 2, slot := 6, constantValue := 0 }, { name := "longestStretch", type := .long, accessFlags := 2, slot := 7, constantValue := 0 }, { name := "nesting", type := .int, accessFlags := 2, slot := 8, constantValue := 0 }, { name := "longestValues", type := (.array .int), accessFlags := 2, slot := 9, constantValue := 0 }, { name := "valueChars", type := .long, accessFlags := 2, slot := 10, constantValue := 0 }, { name := "declaringBytes", type := .long, accessFlags := 2, slot := 11, constantValue := 0 }, { name := "passedOnDeclarations", type := .long, accessFlags := 2, slot := 12, constantValue := 0 }, { name := "passedOnChars", type := .long, accessFlags := 2, slot := 13, constantValue := 0 }, { name := "dropsNames", type := .boolean, accessFlags := 2, slot := 14, constantValue := 0 }]
  methods := #[k9m0, k9m1, k9m2, k9m3, k9m4, k9m5]
  instanceTypes := #[.long, .boolean, .long, .boolean, .boolean, .boolean, .boolean, .long, .int, (.array .int), .long, .long, .long, .long, .boolean]
  staticTypes := #[]
  resolved := Array.replicate 129 none
  statics := none }

def pool10 : Array CpInfo := pool [(1, .class_ 2), (0, u "java/lang/String"), (1, .class_ 6), (1, u "java/lang/Object"), (0, u "<init>"), (0, u "()V"), (0, .methodref 1 10), (0, .nameAndType 11 12), (0, u "checkIndex"), (0, u "(II)V"), (1, .class_ 16), (1, u "java/lang/StringLatin1"), (36, u "([BI)C"), (36, u "canEncode"), (14, u "(C)Z"), (15, u "$assertionsDisabled"), (0, u "Z"), (98, .class_ 223), (1, u "java/lang/StringLatin1$LinesSpliterator"), (28, u "charAt"), (127, u "toBytes"), (1, u "(C)[B"), (7, .class_ 391), (0, u "java/lang/StringLatin1$CharsSpliterator")] 3

def k10m0 : Method := { name := "<init>", desc := "()V", sig := { parameters := [], returnType := none }, accessFlags := 0, code := none }
def k10c1 : Code := { maxStack := 2, maxLocals := 2, code := jdk_43_method_2_code, exceptionTable := #[], attributes := #[] }
def k10m1 : Method := { name := "charAt", desc := "([BI)C", sig := { parameters := [(.array .byte), .int], returnType := some .char }, accessFlags := 9, code := some k10c1 }
def k10c2 : Code := { maxStack := 2, maxLocals := 1, code := jdk_43_method_3_code, exceptionTable := #[], attributes := #[] }
def k10m2 : Method := { name := "canEncode", desc := "(C)Z", sig := { parameters := [.char], returnType := some .boolean }, accessFlags := 9, code := some k10c2 }
def k10c3 : Code := { maxStack := 4, maxLocals := 1, code := jdk_43_method_46_code, exceptionTable := #[], attributes := #[] }
def k10m3 : Method := { name := "toBytes", desc := "(C)[B", sig := { parameters := [.char], returnType := some (.array .byte) }, accessFlags := 9, code := some k10c3 }
/-- java/lang/StringLatin1 -/
def k10 : Class := { plain "java/lang/StringLatin1" (some 0) with
  accessFlags := 48
  interfaces := #[]
  cf := some (fileOf pool10 14 #[.nestMembers #[390, 221]] #[{ accessFlags := 0, nameIndex := 7, descriptorIndex := 8, attributes := #[] }, { accessFlags := 9, nameIndex := 252, descriptorIndex := 53, attributes := #[] }, { accessFlags := 9, nameIndex := 90, descriptorIndex := 105, attributes := #[] }, { accessFlags := 9, nameIndex := 380, descriptorIndex := 382, attributes := #[] }] 48 4 #[] #[{ accessFlags := 4120, nameIndex := 121, descriptorIndex := 122, attributes := #[] }])
  fields := #[{ name := "$assertionsDisabled", type := .boolean, accessFlags := 4120, slot := 0, constantValue := 0 }]
  methods := #[k10m0, k10m1, k10m2, k10m3]
  instanceTypes := #[]
  staticTypes := #[.boolean]
  resolved := Array.replicate 395 none
  statics := none }

def pool11 : Array CpInfo := pool [(9, u "<init>"), (6, .class_ 18), (1, u "java/lang/Object"), (0, u "()V"), (1, .class_ 23), (1, u "jdk/internal/util/ArraysSupport"), (0, u "LOG2_ARRAY_LONG_INDEX_SCALE"), (0, u "I"), (2, u "U"), (0, u "Ljdk/internal/misc/Unsafe;"), (8, u "BIG_ENDIAN"), (0, u "Z"), (8, u "LOG2_BYTE_BIT_SIZE"), (4, u "LOG2_ARRAY_INT_INDEX_SCALE"), (54, u "JLA"), (0, u "Ljdk/internal/access/JavaLangAccess;"), (11, u "LOG2_ARRAY_BOOLEAN_INDEX_SCALE"), (9, u "LOG2_ARRAY_BYTE_INDEX_SCALE"), (5, u "LOG2_ARRAY_CHAR_INDEX_SCALE"), (5, u "LOG2_ARRAY_SHORT_INDEX_SCALE"), (5, u "mismatch"), (12, u "LOG2_ARRAY_FLOAT_INDEX_SCALE"), (24, u "LOG2_ARRAY_DOUBLE_INDEX_SCALE"), (89, u "T_BOOLEAN"), (2, u "T_CHAR"), (1, u "T_FLOAT"), (1, u "T_DOUBLE"), (1, u "T_BYTE"), (1, u "T_SHORT"), (1, u "T_INT"), (1, u "T_LONG"), (1, u "SOFT_MAX_ARRAY_LENGTH"), (42, u "([BI[BII)I")] 40

def k11m0 : Method := { name := "<init>", desc := "()V", sig := { parameters := [], returnType := none }, accessFlags := 2, code := none }
def k11c1 : Code := { maxStack := 8, maxLocals := 8, code := jdk_48_method_14_code, exceptionTable := #[], attributes := #[] }
def k11m1 : Method := { name := "mismatch", desc := "([BI[BII)I", sig := { parameters := [(.array .byte), .int, (.array .byte), .int, .int], returnType := some .int }, accessFlags := 9, code := some k11c1 }
/-- jdk/internal/util/ArraysSupport -/
def k11 : Class := { plain "jdk/internal/util/ArraysSupport" (some 0) with
  accessFlags := 33
  interfaces := #[]
  cf := some (fileOf pool11 21 #[] #[{ accessFlags := 2, nameIndex := 9, descriptorIndex := 19, attributes := #[] }, { accessFlags := 9, nameIndex := 149, descriptorIndex := 337, attributes := #[] }] 33 16 #[] #[{ accessFlags := 24, nameIndex := 28, descriptorIndex := 29, attributes := #[] }, { accessFlags := 26, nameIndex := 38, descriptorIndex := 39, attributes := #[] }, { accessFlags := 25, nameIndex := 121, descriptorIndex := 25, attributes := #[] }, { accessFlags := 25, nameIndex := 131, descriptorIndex := 25, attributes := #[] }, { accessFlags := 25, nameIndex := 137, descriptorIndex := 25, attributes := #[] }, { accessFlags := 25, nameIndex := 143, descriptorIndex := 25, attributes := #[] }, { accessFlags := 25, nameIndex := 53, descriptorIndex := 25, attributes := #[] }, { accessFlags := 25, nameIndex := 24, descriptorIndex := 25, attributes := #[] }, { accessFlags := 25, nameIndex := 162, descriptorIndex := 25, attributes := #[] }, { accessFlags := 25, nameIndex := 187, descriptorIndex := 25, attributes := #[] }, { accessFlags := 26, nameIndex := 48, descriptorIndex := 25, attributes := #[] }, { accessFlags := 25, nameIndex := 277, descriptorIndex := 25, attributes := #[] }, { accessFlags := 25, nameIndex := 280, descriptorIndex := 25, attributes := #[] }, { accessFlags := 25, nameIndex := 282, descriptorIndex := 25, attributes := #[] }, { accessFlags := 25, nameIndex := 284, descriptorIndex := 25, attributes := #[] }, { accessFlags := 25, nameIndex := 286, descriptorIndex := 25, attributes := #[] }, { accessFlags := 25, nameIndex := 288, descriptorIndex := 25, attributes := #[] }, { accessFlags := 25, nameIndex := 290, descriptorIndex := 25, attributes := #[] }, { accessFlags := 25, nameIndex := 292, descriptorIndex := 25, attributes := #[] }, { accessFlags := 26, nameIndex := 108, descriptorIndex := 109, attributes := #[] }, { accessFlags := 25, nameIndex := 294, descriptorIndex := 25, attributes := #[] }])
  fields := #[{ name := "U", type := (.object "jdk/internal/misc/Unsafe"), accessFlags := 24, slot := 0, constantValue := 0 }, { name := "BIG_ENDIAN", type := .boolean, accessFlags := 26, slot := 1, constantValue := 0 }, { name := "LOG2_ARRAY_BOOLEAN_INDEX_SCALE", type := .int, accessFlags := 25, slot := 2, constantValue := 0 }, { name := "LOG2_ARRAY_BYTE_INDEX_SCALE", type := .int, accessFlags := 25, slot := 3, constantValue := 0 }, { name := "LOG2_ARRAY_CHAR_INDEX_SCALE", type := .int, accessFlags := 25, slot := 4, constantValue := 0 }, { name := "LOG2_ARRAY_SHORT_INDEX_SCALE", type := .int, accessFlags := 25, slot := 5, constantValue := 0 }, { name := "LOG2_ARRAY_INT_INDEX_SCALE", type := .int, accessFlags := 25, slot := 6, constantValue := 0 }, { name := "LOG2_ARRAY_LONG_INDEX_SCALE", type := .int, accessFlags := 25, slot := 7, constantValue := 0 }, { name := "LOG2_ARRAY_FLOAT_INDEX_SCALE", type := .int, accessFlags := 25, slot := 8, constantValue := 0 }, { name := "LOG2_ARRAY_DOUBLE_INDEX_SCALE", type := .int, accessFlags := 25, slot := 9, constantValue := 0 }, { name := "LOG2_BYTE_BIT_SIZE", type := .int, accessFlags := 26, slot := 10, constantValue := 0 }, { name := "T_BOOLEAN", type := .int, accessFlags := 25, slot := 11, constantValue := 0 }, { name := "T_CHAR", type := .int, accessFlags := 25, slot := 12, constantValue := 0 }, { name := "T_FLOAT", type := .int, accessFlags := 25, slot := 13, constantValue := 0 }, { name := "T_DOUBLE", type := .int, accessFlags := 25, slot := 14, constantValue := 0 }, { name := "T_BYTE", type := .int, accessFlags := 25, slot := 15, constantValue := 0 }, { name := "T_SHORT", type := .int, accessFlags := 25, slot := 16, constantValue := 0 }, { name := "T_INT", type := .int, accessFlags := 25, slot := 17, constantValue := 0 }, { name := "T_LONG", type := .int, accessFlags := 25, slot := 18, constantValue := 0 }, { name := "JLA", type := (.object "jdk/internal/access/JavaLangAccess"), accessFlags := 26, slot := 19, constantValue := 0 }, { name := "SOFT_MAX_ARRAY_LENGTH", type := .int, accessFlags := 25, slot := 20, constantValue := 0 }]
  methods := #[k11m0, k11m1]
  instanceTypes := #[]
  staticTypes := #[(.object "jdk/internal/misc/Unsafe"), .boolean, .int, .int, .int, .int, .int, .int, .int, .int, .int, .int, .int, .int, .int, .int, .int, .int, .int, (.object "jdk/internal/access/JavaLangAccess"), .int]
  resolved := Array.replicate 378 none
  statics := none }

def pool12 : Array CpInfo := pool [(2, .class_ 4), (1, u "java/lang/Object"), (0, u "<init>"), (0, u "()V"), (17, .class_ 26), (1, u "jdk/internal/util/Preconditions"), (6, u "checkIndex"), (21, .class_ 56), (0, u "jdk/internal/util/Preconditions$4"), (57, .class_ 115), (0, u "jdk/internal/util/Preconditions$1"), (7, u "SIOOBE_FORMATTER"), (0, u "Ljava/util/function/BiFunction;"), (0, .class_ 126), (0, u "jdk/internal/util/Preconditions$2"), (3, u "AIOOBE_FORMATTER"), (0, .class_ 132), (0, u "jdk/internal/util/Preconditions$3"), (3, u "IOOBE_FORMATTER"), (41, u "(IILjava/util/function/BiFunction;)I")] 15

def k12m0 : Method := { name := "<init>", desc := "()V", sig := { parameters := [], returnType := none }, accessFlags := 1, code := none }
def k12c1 : Code := { maxStack := 3, maxLocals := 3, code := jdk_41_method_11_code, exceptionTable := #[], attributes := #[] }
def k12m1 : Method := { name := "checkIndex", desc := "(IILjava/util/function/BiFunction;)I", sig := { parameters := [.int, .int, (.object "java/util/function/BiFunction")], returnType := some .int }, accessFlags := 9, code := some k12c1 }
/-- jdk/internal/util/Preconditions -/
def k12 : Class := { plain "jdk/internal/util/Preconditions" (some 0) with
  accessFlags := 33
  interfaces := #[]
  cf := some (fileOf pool12 24 #[.nestMembers #[55, 131, 125, 114]] #[{ accessFlags := 1, nameIndex := 5, descriptorIndex := 6, attributes := #[] }, { accessFlags := 9, nameIndex := 33, descriptorIndex := 178, attributes := #[] }] 33 2 #[] #[{ accessFlags := 25, nameIndex := 123, descriptorIndex := 124, attributes := #[] }, { accessFlags := 25, nameIndex := 130, descriptorIndex := 124, attributes := #[] }, { accessFlags := 25, nameIndex := 136, descriptorIndex := 124, attributes := #[] }])
  fields := #[{ name := "SIOOBE_FORMATTER", type := (.object "java/util/function/BiFunction"), accessFlags := 25, slot := 0, constantValue := 0 }, { name := "AIOOBE_FORMATTER", type := (.object "java/util/function/BiFunction"), accessFlags := 25, slot := 1, constantValue := 0 }, { name := "IOOBE_FORMATTER", type := (.object "java/util/function/BiFunction"), accessFlags := 25, slot := 2, constantValue := 0 }]
  methods := #[k12m0, k12m1]
  instanceTypes := #[]
  staticTypes := #[(.object "java/util/function/BiFunction"), (.object "java/util/function/BiFunction"), (.object "java/util/function/BiFunction")]
  resolved := Array.replicate 194 none
  statics := some 1 }

def pool13 : Array CpInfo := pool [(1, u "java/lang/Cloneable"), (0, .class_ 1), (0, u "java/lang/Object"), (0, .class_ 3)] 3

/-- java/lang/Cloneable -/
def k13 : Class := { plain "java/lang/Cloneable" (some 0) with
  accessFlags := 1537
  interfaces := #[]
  cf := some (fileOf pool13 2 #[] #[] 1537 4 #[] #[])
  fields := #[]
  methods := #[]
  instanceTypes := #[]
  staticTypes := #[]
  resolved := Array.replicate 8 none
  statics := none }

/-- the primitive byte -/
def k14 : Class := { plain "byte" none with kind := .primitive 'B', accessFlags := 0x411 }
/-- [B -/
def k15 : Class := { plain "[B" (some 0) with kind := .array 14 .byte, interfaces := #[13, 2], accessFlags := 1041 }

/-- the primitive char -/
def k16 : Class := { plain "char" none with kind := .primitive 'C', accessFlags := 0x411 }
/-- [C -/
def k17 : Class := { plain "[C" (some 0) with kind := .array 16 .char, interfaces := #[13, 2], accessFlags := 1041 }

/-- the primitive int -/
def k18 : Class := { plain "int" none with kind := .primitive 'I', accessFlags := 0x411 }
/-- [I -/
def k19 : Class := { plain "[I" (some 0) with kind := .array 18 .int, interfaces := #[13, 2], accessFlags := 1041 }

def heap : Heap := #[{ cls := 7, slots := #[.long 0, .int 1, .null, .int 0, .null, .int 0, .int 0], vm := .statics 7 },
  { cls := 12, slots := #[.null, .null, .null], vm := .statics 12 }]
def classes : Array Class := #[k0, k1, k2, k3, k4, k5, k6, k7, k8, k9, k10, k11, k12, k13, k14, k15, k16, k17, k18, k19]
def interned : List (Array UInt16 × Addr) := []
def slotsUsed : Nat := 10
def theMethod : MethodId := ⟨1, 3⟩
def args0 : Array Value := #[.int 1, .int 4, .int 4]
def aboutOver (below : List Frame) : State where
  vm := { classes := classes, interned := interned.toArray }
  heap := heap
  slotsUsed := slotsUsed
  threads := #[{ frames := .invoking theMethod args0 :: below }]
def below0 : List Frame := [.native { method := ⟨0, 0⟩, args := #[] }]
def about1 : State := aboutOver below0
def p0 : Program := .bare "" "" ""
def e0 : Env := launch0.env 0 0 0
theorem w_frames : about1.frames = Frame.invoking theMethod args0 :: below0 := rfl
set_option maxRecDepth 65536 in
theorem w_args : argsFit about1.vm theMethod args0 = true := by decide +kernel
set_option maxRecDepth 65536 in
theorem w_heap : heapFits about1 = true := by decide +kernel
set_option maxRecDepth 65536 in
theorem w_runnable : about1.curStatus? = some .runnable := by decide +kernel
set_option maxRecDepth 65536 in
theorem w_alone : about1.alone = true := by decide +kernel
set_option maxRecDepth 65536 in
theorem w_named : about1.methodNamed? x = some theMethod := by decide +kernel
set_option maxRecDepth 65536 in
theorem w_hears : about1.hears theMethod below0 = true := by decide +kernel
set_option maxRecDepth 65536 in
theorem w_ripe : about1.ripe theMethod args0 below0 = true := by decide +kernel
theorem w_running : about1.status = .running := rfl
set_option maxRecDepth 65536 in
theorem w_room : about1.hasRoom e0.platform room_1 = true :=
  launch0.hasRoom_least _ room_1 (by decide +kernel) (by decide +kernel) (by decide +kernel) (by decide +kernel) (by decide +kernel) (by decide +kernel)
theorem allAtoms_all (ts : List Jvm.Cond) (a : Array Jvm.Value) (st : Jvm.State) : (allAtoms ts).before a st = ts.all (fun c => c.before a st) := by
  induction ts with
  | nil => rfl
  | cons c t ih =>
    show (Jvm.Cond.and c (allAtoms t)).before a st = _
    rw [Jvm.Cond.before_and, ih, List.all_cons]
def words1 : List Jvm.Cond := Jvm.Cond.code x code maxLocals ret :: tables_1
/-- a 'code' word, met by the world's own term for the bytes: nothing is compared byte by byte -/
theorem code_word {y : MethodName} {bytes : ByteArray} {mx : Nat} {rt : Option FieldType} {a : Array Value} {s : State} {m : MethodId} {meth : Method} {c : Code} (h1 : s.methodNamed? y = some m) (h2 : s.vm.method? m = some meth) (h3 : meth.code = some c) (h4 : c.code = bytes)
    (h5 : (c.maxLocals == mx && c.exceptionTable.isEmpty && decide (c.maxStack ≤ mostOperands) && decide (meth.sig.returnType = rt) && !meth.locks && decide (parseMethodDescriptor y.desc = some meth.sig)) = true) : (Jvm.Cond.code y bytes mx rt).before a s = true := by
  simp only [Bool.and_eq_true, beq_iff_eq, Bool.not_eq_true', decide_eq_true_eq] at h5
  obtain ⟨⟨⟨⟨⟨g1, g2⟩, g3⟩, g4⟩, g5⟩, g6⟩ := h5
  simp [Cond.before, Cond.holds, Cond.value, h1, h2, h3, h4, g1, g2, g3, g4, g5, g6]
def isCode : Jvm.Cond → Bool
  | .code _ _ _ _ => true
  | _ => false
theorem all_split {L : List Jvm.Cond} {P : Jvm.Cond → Bool} (h1 : L.all (fun c => isCode c || P c) = true) (h2 : ∀ c ∈ L.filter isCode, P c = true) : L.all P = true := by
  refine List.all_eq_true.mpr fun c hc => ?_
  have h := List.all_eq_true.mp h1 c hc
  rcases Bool.eq_false_or_eq_true (isCode c) with hi | hi
  · exact h2 c (List.mem_filter.mpr ⟨hc, hi⟩)
  · simpa [hi] using h
set_option maxRecDepth 65536 in
theorem w_c0 : (Jvm.Cond.code x code maxLocals ret).before args0 about1 = true := code_word (m := ⟨1, 3⟩) (meth := k1m3) (c := k1c3) (by decide +kernel) rfl rfl rfl (by decide +kernel)
set_option maxRecDepth 65536 in
theorem w_c1 : (Jvm.Cond.code ({ cls := "com/example/skope/skope/xml/IntakeReplacedUncountedPinLaw", name := "name", desc := "(I)Ljava/lang/String;" } : Jvm.MethodName) method_2_code (4 : Nat) (Option.some (Jvm.ClassFile.FieldType.object "java/lang/String"))).before args0 about1 = true := code_word (m := ⟨1, 1⟩) (meth := k1m1) (c := k1c1) (by decide +kernel) rfl rfl rfl (by decide +kernel)
set_option maxRecDepth 65536 in
theorem w_c2 : (Jvm.Cond.code ({ cls := "java/lang/String", name := "<init>", desc := "([C)V" } : Jvm.MethodName) jdk_42_method_3_code (2 : Nat) (Option.none : Option Jvm.ClassFile.FieldType)).before args0 about1 = true := code_word (m := ⟨7, 1⟩) (meth := k7m1) (c := k7c1) (by decide +kernel) rfl rfl rfl (by decide +kernel)
set_option maxRecDepth 65536 in
theorem w_c3 : (Jvm.Cond.code ({ cls := "java/lang/String", name := "<init>", desc := "([CIILjava/lang/Void;)V" } : Jvm.MethodName) jdk_42_method_149_code (6 : Nat) (Option.none : Option Jvm.ClassFile.FieldType)).before args0 about1 = true := code_word (m := ⟨7, 7⟩) (meth := k7m7) (c := k7c7) (by decide +kernel) rfl rfl rfl (by decide +kernel)
set_option maxRecDepth 65536 in
theorem w_c4 : (Jvm.Cond.code ({ cls := "java/lang/Object", name := "<init>", desc := "()V" } : Jvm.MethodName) object_method_1_code (1 : Nat) (Option.none : Option Jvm.ClassFile.FieldType)).before args0 about1 = true := code_word (m := ⟨0, 0⟩) (meth := k0m0) (c := k0c0) (by decide +kernel) rfl rfl rfl (by decide +kernel)
set_option maxRecDepth 65536 in
theorem w_c5 : (Jvm.Cond.code ({ cls := "java/lang/StringUTF16", name := "compress", desc := "([CII)[B" } : Jvm.MethodName) jdk_52_method_16_code (6 : Nat) (Option.some (Jvm.ClassFile.FieldType.array Jvm.ClassFile.FieldType.byte))).before args0 about1 = true := code_word (m := ⟨8, 2⟩) (meth := k8m2) (c := k8c2) (by decide +kernel) rfl rfl rfl (by decide +kernel)
set_option maxRecDepth 65536 in
theorem w_c6 : (Jvm.Cond.code ({ cls := "java/lang/StringUTF16", name := "compress", desc := "([CI[BII)I" } : Jvm.MethodName) jdk_52_method_21_code (7 : Nat) (Option.some Jvm.ClassFile.FieldType.int)).before args0 about1 = true := code_word (m := ⟨8, 3⟩) (meth := k8m3) (c := k8c3) (by decide +kernel) rfl rfl rfl (by decide +kernel)
set_option maxRecDepth 65536 in
theorem w_c7 : (Jvm.Cond.code ({ cls := "java/lang/StringUTF16", name := "coderFromArrayLen", desc := "([BI)B" } : Jvm.MethodName) jdk_52_method_15_code (2 : Nat) (Option.some Jvm.ClassFile.FieldType.byte)).before args0 about1 = true := code_word (m := ⟨8, 1⟩) (meth := k8m1) (c := k8c1) (by decide +kernel) rfl rfl rfl (by decide +kernel)
set_option maxRecDepth 65536 in
theorem w_c8 : (Jvm.Cond.code ({ cls := "com/example/skope/skope/xml/Intake", name := "<init>", desc := "()V" } : Jvm.MethodName) prog_26_method_1_code (1 : Nat) (Option.none : Option Jvm.ClassFile.FieldType)).before args0 about1 = true := code_word (m := ⟨9, 0⟩) (meth := k9m0) (c := k9c0) (by decide +kernel) rfl rfl rfl (by decide +kernel)
set_option maxRecDepth 65536 in
theorem w_c9 : (Jvm.Cond.code ({ cls := "com/example/skope/skope/xml/Intake", name := "replacedUncounted", desc := "()Z" } : Jvm.MethodName) prog_26_method_13_code (1 : Nat) (Option.some Jvm.ClassFile.FieldType.boolean)).before args0 about1 = true := code_word (m := ⟨9, 3⟩) (meth := k9m3) (c := k9c3) (by decide +kernel) rfl rfl rfl (by decide +kernel)
set_option maxRecDepth 65536 in
theorem w_c10 : (Jvm.Cond.code ({ cls := "com/example/skope/skope/xml/Intake", name := "addInternalEntity", desc := "(Ljava/lang/String;)V" } : Jvm.MethodName) prog_26_method_11_code (2 : Nat) (Option.none : Option Jvm.ClassFile.FieldType)).before args0 about1 = true := code_word (m := ⟨9, 1⟩) (meth := k9m1) (c := k9c1) (by decide +kernel) rfl rfl rfl (by decide +kernel)
set_option maxRecDepth 65536 in
theorem w_c11 : (Jvm.Cond.code ({ cls := "java/lang/String", name := "startsWith", desc := "(Ljava/lang/String;)Z" } : Jvm.MethodName) jdk_42_method_76_code (2 : Nat) (Option.some Jvm.ClassFile.FieldType.boolean)).before args0 about1 = true := code_word (m := ⟨7, 5⟩) (meth := k7m5) (c := k7c5) (by decide +kernel) rfl rfl rfl (by decide +kernel)
set_option maxRecDepth 65536 in
theorem w_c12 : (Jvm.Cond.code ({ cls := "java/lang/String", name := "startsWith", desc := "(Ljava/lang/String;I)Z" } : Jvm.MethodName) jdk_42_method_75_code (8 : Nat) (Option.some Jvm.ClassFile.FieldType.boolean)).before args0 about1 = true := code_word (m := ⟨7, 4⟩) (meth := k7m4) (c := k7c4) (by decide +kernel) rfl rfl rfl (by decide +kernel)
set_option maxRecDepth 65536 in
theorem w_c13 : (Jvm.Cond.code ({ cls := "java/lang/String", name := "length", desc := "()I" } : Jvm.MethodName) jdk_42_method_54_code (1 : Nat) (Option.some Jvm.ClassFile.FieldType.int)).before args0 about1 = true := code_word (m := ⟨7, 2⟩) (meth := k7m2) (c := k7c2) (by decide +kernel) rfl rfl rfl (by decide +kernel)
set_option maxRecDepth 65536 in
theorem w_c14 : (Jvm.Cond.code ({ cls := "java/lang/String", name := "coder", desc := "()B" } : Jvm.MethodName) jdk_42_method_152_code (1 : Nat) (Option.some Jvm.ClassFile.FieldType.byte)).before args0 about1 = true := code_word (m := ⟨7, 9⟩) (meth := k7m9) (c := k7c9) (by decide +kernel) rfl rfl rfl (by decide +kernel)
set_option maxRecDepth 65536 in
theorem w_c15 : (Jvm.Cond.code ({ cls := "com/example/skope/skope/xml/IntakeReplacedUncountedPinLaw", name := "isParam", desc := "(Ljava/lang/String;)Z" } : Jvm.MethodName) method_3_code (1 : Nat) (Option.some Jvm.ClassFile.FieldType.boolean)).before args0 about1 = true := code_word (m := ⟨1, 2⟩) (meth := k1m2) (c := k1c2) (by decide +kernel) rfl rfl rfl (by decide +kernel)
set_option maxRecDepth 65536 in
theorem w_c16 : (Jvm.Cond.code ({ cls := "com/example/skope/skope/xml/Intake", name := "addDocumentTypeDeclaration", desc := "()V" } : Jvm.MethodName) prog_26_method_14_code (1 : Nat) (Option.none : Option Jvm.ClassFile.FieldType)).before args0 about1 = true := code_word (m := ⟨9, 4⟩) (meth := k9m4) (c := k9c4) (by decide +kernel) rfl rfl rfl (by decide +kernel)
set_option maxRecDepth 65536 in
theorem w_c17 : (Jvm.Cond.code ({ cls := "com/example/skope/skope/xml/Intake", name := "clear", desc := "()V" } : Jvm.MethodName) prog_26_method_21_code (1 : Nat) (Option.none : Option Jvm.ClassFile.FieldType)).before args0 about1 = true := code_word (m := ⟨9, 5⟩) (meth := k9m5) (c := k9c5) (by decide +kernel) rfl rfl rfl (by decide +kernel)
set_option maxRecDepth 65536 in
theorem w_c18 : (Jvm.Cond.code ({ cls := "java/lang/String", name := "valueOf", desc := "(C)Ljava/lang/String;" } : Jvm.MethodName) jdk_42_method_139_code (1 : Nat) (Option.some (Jvm.ClassFile.FieldType.object "java/lang/String"))).before args0 about1 = true := code_word (m := ⟨7, 6⟩) (meth := k7m6) (c := k7c6) (by decide +kernel) rfl rfl rfl (by decide +kernel)
set_option maxRecDepth 65536 in
theorem w_c19 : (Jvm.Cond.code ({ cls := "java/lang/StringLatin1", name := "canEncode", desc := "(C)Z" } : Jvm.MethodName) jdk_43_method_3_code (1 : Nat) (Option.some Jvm.ClassFile.FieldType.boolean)).before args0 about1 = true := code_word (m := ⟨10, 2⟩) (meth := k10m2) (c := k10c2) (by decide +kernel) rfl rfl rfl (by decide +kernel)
set_option maxRecDepth 65536 in
theorem w_c20 : (Jvm.Cond.code ({ cls := "java/lang/StringLatin1", name := "toBytes", desc := "(C)[B" } : Jvm.MethodName) jdk_43_method_46_code (1 : Nat) (Option.some (Jvm.ClassFile.FieldType.array Jvm.ClassFile.FieldType.byte))).before args0 about1 = true := code_word (m := ⟨10, 3⟩) (meth := k10m3) (c := k10c3) (by decide +kernel) rfl rfl rfl (by decide +kernel)
set_option maxRecDepth 65536 in
theorem w_c21 : (Jvm.Cond.code ({ cls := "java/lang/String", name := "<init>", desc := "([BB)V" } : Jvm.MethodName) jdk_42_method_151_code (3 : Nat) (Option.none : Option Jvm.ClassFile.FieldType)).before args0 about1 = true := code_word (m := ⟨7, 8⟩) (meth := k7m8) (c := k7c8) (by decide +kernel) rfl rfl rfl (by decide +kernel)
set_option maxRecDepth 65536 in
theorem w_c22 : (Jvm.Cond.code ({ cls := "com/example/skope/skope/xml/Intake", name := "addAttributeList", desc := "()V" } : Jvm.MethodName) prog_26_method_12_code (1 : Nat) (Option.none : Option Jvm.ClassFile.FieldType)).before args0 about1 = true := code_word (m := ⟨9, 2⟩) (meth := k9m2) (c := k9c2) (by decide +kernel) rfl rfl rfl (by decide +kernel)
set_option maxRecDepth 65536 in
theorem w_c23 : (Jvm.Cond.code ({ cls := "jdk/internal/util/ArraysSupport", name := "mismatch", desc := "([BI[BII)I" } : Jvm.MethodName) jdk_48_method_14_code (8 : Nat) (Option.some Jvm.ClassFile.FieldType.int)).before args0 about1 = true := code_word (m := ⟨11, 1⟩) (meth := k11m1) (c := k11c1) (by decide +kernel) rfl rfl rfl (by decide +kernel)
set_option maxRecDepth 65536 in
theorem w_c24 : (Jvm.Cond.code ({ cls := "java/lang/String", name := "charAt", desc := "(I)C" } : Jvm.MethodName) jdk_42_method_56_code (2 : Nat) (Option.some Jvm.ClassFile.FieldType.char)).before args0 about1 = true := code_word (m := ⟨7, 3⟩) (meth := k7m3) (c := k7c3) (by decide +kernel) rfl rfl rfl (by decide +kernel)
set_option maxRecDepth 65536 in
theorem w_c25 : (Jvm.Cond.code ({ cls := "java/lang/String", name := "isLatin1", desc := "()Z" } : Jvm.MethodName) jdk_42_method_154_code (1 : Nat) (Option.some Jvm.ClassFile.FieldType.boolean)).before args0 about1 = true := code_word (m := ⟨7, 10⟩) (meth := k7m10) (c := k7c10) (by decide +kernel) rfl rfl rfl (by decide +kernel)
set_option maxRecDepth 65536 in
theorem w_c26 : (Jvm.Cond.code ({ cls := "java/lang/StringLatin1", name := "charAt", desc := "([BI)C" } : Jvm.MethodName) jdk_43_method_2_code (2 : Nat) (Option.some Jvm.ClassFile.FieldType.char)).before args0 about1 = true := code_word (m := ⟨10, 1⟩) (meth := k10m1) (c := k10c1) (by decide +kernel) rfl rfl rfl (by decide +kernel)
set_option maxRecDepth 65536 in
theorem w_c27 : (Jvm.Cond.code ({ cls := "java/lang/String", name := "checkIndex", desc := "(II)V" } : Jvm.MethodName) jdk_42_method_155_code (2 : Nat) (Option.none : Option Jvm.ClassFile.FieldType)).before args0 about1 = true := code_word (m := ⟨7, 11⟩) (meth := k7m11) (c := k7c11) (by decide +kernel) rfl rfl rfl (by decide +kernel)
set_option maxRecDepth 65536 in
theorem w_c28 : (Jvm.Cond.code ({ cls := "jdk/internal/util/Preconditions", name := "checkIndex", desc := "(IILjava/util/function/BiFunction;)I" } : Jvm.MethodName) jdk_41_method_11_code (3 : Nat) (Option.some Jvm.ClassFile.FieldType.int)).before args0 about1 = true := code_word (m := ⟨12, 1⟩) (meth := k12m1) (c := k12c1) (by decide +kernel) rfl rfl rfl (by decide +kernel)
def codes1 : List Jvm.Cond := [Jvm.Cond.code x code maxLocals ret, Jvm.Cond.code ({ cls := "com/example/skope/skope/xml/IntakeReplacedUncountedPinLaw", name := "name", desc := "(I)Ljava/lang/String;" } : Jvm.MethodName) method_2_code (4 : Nat) (Option.some (Jvm.ClassFile.FieldType.object "java/lang/String")), Jvm.Cond.code ({ cls := "java/lang/String", name := "<init>", desc := "([C)V" } : Jvm.MethodName) jdk_42_method_3_code (2 : Nat) (Option.none : Option Jvm.ClassFile.FieldType), Jvm.Cond.code ({ cls := "java/lang/String", name := "<init>", desc := "([CIILjava/lang/Void;)V" } : Jvm.MethodName) jdk_42_method_149_code (6 : Nat) (Option.none : Option Jvm.ClassFile.FieldType), Jvm.Cond.code ({ cls := "java/lang/Object", name := "<init>", desc := "()V" } : Jvm.MethodName) object_method_1_code (1 : Nat) (Option.none : Option Jvm.ClassFile.FieldType), Jvm.Cond.code ({ cls := "java/lang/StringUTF16", name := "compress", desc := "([CII)[B" } : Jvm.MethodName) jdk_52_method_16_code (6 : Nat) (Option.some (Jvm.ClassFile.FieldType.array Jvm.ClassFile.FieldType.byte)), Jvm.Cond.code ({ cls := "java/lang/StringUTF16", name := "compress", desc := "([CI[BII)I" } : Jvm.MethodName) jdk_52_method_21_code (7 : Nat) (Option.some Jvm.ClassFile.FieldType.int), Jvm.Cond.code ({ cls := "java/lang/StringUTF16", name := "coderFromArrayLen", desc := "([BI)B" } : Jvm.MethodName) jdk_52_method_15_code (2 : Nat) (Option.some Jvm.ClassFile.FieldType.byte), Jvm.Cond.code ({ cls := "com/example/skope/skope/xml/Intake", name := "<init>", desc := "()V" } : Jvm.MethodName) prog_26_method_1_code (1 : Nat) (Option.none : Option Jvm.ClassFile.FieldType), Jvm.Cond.code ({ cls := "com/example/skope/skope/xml/Intake", name := "replacedUncounted", desc := "()Z" } : Jvm.MethodName) prog_26_method_13_code (1 : Nat) (Option.some Jvm.ClassFile.FieldType.boolean), Jvm.Cond.code ({ cls := "com/example/skope/skope/xml/Intake", name := "addInternalEntity", desc := "(Ljava/lang/String;)V" } : Jvm.MethodName) prog_26_method_11_code (2 : Nat) (Option.none : Option Jvm.ClassFile.FieldType), Jvm.Cond.code ({ cls := "java/lang/String", name := "startsWith", desc := "(Ljava/lang/String;)Z" } : Jvm.MethodName) jdk_42_method_76_code (2 : Nat) (Option.some Jvm.ClassFile.FieldType.boolean), Jvm.Cond.code ({ cls := "java/lang/String", name := "startsWith", desc := "(Ljava/lang/String;I)Z" } : Jvm.MethodName) jdk_42_method_75_code (8 : Nat) (Option.some Jvm.ClassFile.FieldType.boolean), Jvm.Cond.code ({ cls := "java/lang/String", name := "length", desc := "()I" } : Jvm.MethodName) jdk_42_method_54_code (1 : Nat) (Option.some Jvm.ClassFile.FieldType.int), Jvm.Cond.code ({ cls := "java/lang/String", name := "coder", desc := "()B" } : Jvm.MethodName) jdk_42_method_152_code (1 : Nat) (Option.some Jvm.ClassFile.FieldType.byte), Jvm.Cond.code ({ cls := "com/example/skope/skope/xml/IntakeReplacedUncountedPinLaw", name := "isParam", desc := "(Ljava/lang/String;)Z" } : Jvm.MethodName) method_3_code (1 : Nat) (Option.some Jvm.ClassFile.FieldType.boolean), Jvm.Cond.code ({ cls := "com/example/skope/skope/xml/Intake", name := "addDocumentTypeDeclaration", desc := "()V" } : Jvm.MethodName) prog_26_method_14_code (1 : Nat) (Option.none : Option Jvm.ClassFile.FieldType), Jvm.Cond.code ({ cls := "com/example/skope/skope/xml/Intake", name := "clear", desc := "()V" } : Jvm.MethodName) prog_26_method_21_code (1 : Nat) (Option.none : Option Jvm.ClassFile.FieldType), Jvm.Cond.code ({ cls := "java/lang/String", name := "valueOf", desc := "(C)Ljava/lang/String;" } : Jvm.MethodName) jdk_42_method_139_code (1 : Nat) (Option.some (Jvm.ClassFile.FieldType.object "java/lang/String")), Jvm.Cond.code ({ cls := "java/lang/StringLatin1", name := "canEncode", desc := "(C)Z" } : Jvm.MethodName) jdk_43_method_3_code (1 : Nat) (Option.some Jvm.ClassFile.FieldType.boolean), Jvm.Cond.code ({ cls := "java/lang/StringLatin1", name := "toBytes", desc := "(C)[B" } : Jvm.MethodName) jdk_43_method_46_code (1 : Nat) (Option.some (Jvm.ClassFile.FieldType.array Jvm.ClassFile.FieldType.byte)), Jvm.Cond.code ({ cls := "java/lang/String", name := "<init>", desc := "([BB)V" } : Jvm.MethodName) jdk_42_method_151_code (3 : Nat) (Option.none : Option Jvm.ClassFile.FieldType), Jvm.Cond.code ({ cls := "com/example/skope/skope/xml/Intake", name := "addAttributeList", desc := "()V" } : Jvm.MethodName) prog_26_method_12_code (1 : Nat) (Option.none : Option Jvm.ClassFile.FieldType), Jvm.Cond.code ({ cls := "jdk/internal/util/ArraysSupport", name := "mismatch", desc := "([BI[BII)I" } : Jvm.MethodName) jdk_48_method_14_code (8 : Nat) (Option.some Jvm.ClassFile.FieldType.int), Jvm.Cond.code ({ cls := "java/lang/String", name := "charAt", desc := "(I)C" } : Jvm.MethodName) jdk_42_method_56_code (2 : Nat) (Option.some Jvm.ClassFile.FieldType.char), Jvm.Cond.code ({ cls := "java/lang/String", name := "isLatin1", desc := "()Z" } : Jvm.MethodName) jdk_42_method_154_code (1 : Nat) (Option.some Jvm.ClassFile.FieldType.boolean), Jvm.Cond.code ({ cls := "java/lang/StringLatin1", name := "charAt", desc := "([BI)C" } : Jvm.MethodName) jdk_43_method_2_code (2 : Nat) (Option.some Jvm.ClassFile.FieldType.char), Jvm.Cond.code ({ cls := "java/lang/String", name := "checkIndex", desc := "(II)V" } : Jvm.MethodName) jdk_42_method_155_code (2 : Nat) (Option.none : Option Jvm.ClassFile.FieldType), Jvm.Cond.code ({ cls := "jdk/internal/util/Preconditions", name := "checkIndex", desc := "(IILjava/util/function/BiFunction;)I" } : Jvm.MethodName) jdk_41_method_11_code (3 : Nat) (Option.some Jvm.ClassFile.FieldType.int)]
set_option maxRecDepth 65536 in
theorem codes_eq : words1.filter isCode = codes1 := rfl
theorem w_codes : ∀ c ∈ words1.filter isCode, c.before args0 about1 = true := by
  rw [codes_eq]
  intro c hc
  simp only [codes1, List.mem_cons, List.not_mem_nil, or_false] at hc
  rcases hc with rfl | rfl | rfl | rfl | rfl | rfl | rfl | rfl | rfl | rfl | rfl | rfl | rfl | rfl | rfl | rfl | rfl | rfl | rfl | rfl | rfl | rfl | rfl | rfl | rfl | rfl | rfl | rfl | rfl
  · exact w_c0
  · exact w_c1
  · exact w_c2
  · exact w_c3
  · exact w_c4
  · exact w_c5
  · exact w_c6
  · exact w_c7
  · exact w_c8
  · exact w_c9
  · exact w_c10
  · exact w_c11
  · exact w_c12
  · exact w_c13
  · exact w_c14
  · exact w_c15
  · exact w_c16
  · exact w_c17
  · exact w_c18
  · exact w_c19
  · exact w_c20
  · exact w_c21
  · exact w_c22
  · exact w_c23
  · exact w_c24
  · exact w_c25
  · exact w_c26
  · exact w_c27
  · exact w_c28
set_option maxRecDepth 65536 in
theorem w_t1 : (words1.take 24).all (fun c => isCode c || c.before args0 about1) = true := by decide +kernel
set_option maxRecDepth 65536 in
theorem w_t2 : ((words1.drop 24).take 24).all (fun c => isCode c || c.before args0 about1) = true := by decide +kernel
set_option maxRecDepth 65536 in
theorem w_t3 : (((words1.drop 24).drop 24).take 24).all (fun c => isCode c || c.before args0 about1) = true := by decide +kernel
set_option maxRecDepth 65536 in
theorem w_t4 : ((((words1.drop 24).drop 24).drop 24).take 24).all (fun c => isCode c || c.before args0 about1) = true := by decide +kernel
set_option maxRecDepth 65536 in
theorem w_t5 : (((((words1.drop 24).drop 24).drop 24).drop 24).take 24).all (fun c => isCode c || c.before args0 about1) = true := by decide +kernel
set_option maxRecDepth 65536 in
theorem w_t6 : ((((((words1.drop 24).drop 24).drop 24).drop 24).drop 24).take 24).all (fun c => isCode c || c.before args0 about1) = true := by decide +kernel
set_option maxRecDepth 65536 in
theorem w_t7 : ((((((words1.drop 24).drop 24).drop 24).drop 24).drop 24).drop 24).all (fun c => isCode c || c.before args0 about1) = true := by decide +kernel
theorem w_tables : (allAtoms (Jvm.Cond.code x code maxLocals ret :: tables_1)).before args0 about1 = true := by
  rw [allAtoms_all]
  show words1.all (fun c => c.before args0 about1) = true
  refine all_split ?_ w_codes
  rw [← List.take_append_drop 24 words1, List.all_append, w_t1, ← List.take_append_drop 24 (words1.drop 24), List.all_append, w_t2, ← List.take_append_drop 24 ((words1.drop 24).drop 24), List.all_append, w_t3, ← List.take_append_drop 24 (((words1.drop 24).drop 24).drop 24), List.all_append, w_t4, ← List.take_append_drop 24 ((((words1.drop 24).drop 24).drop 24).drop 24), List.all_append, w_t5, ← List.take_append_drop 24 (((((words1.drop 24).drop 24).drop 24).drop 24).drop 24), List.all_append, w_t6, w_t7]
  rfl
set_option maxRecDepth 65536 in
theorem w_rest : rest_1_c.before args0 about1 = true := by decide +kernel
set_option maxRecDepth 65536 in
theorem w_case : (Jvm.Cond.and given_1 narrow_1).before args0 about1 = true := by decide +kernel
set_option maxRecDepth 65536 in
theorem w_consts : constsHeld consts_1 about1 := Jvm.Lit.constsHeldB_iff.mp (by decide +kernel)
theorem w_applies : (headSpec (Jvm.Cond.code x code maxLocals ret :: tables_1) room_1).applies x e0.platform about1 = true :=
  (Spec.applies_iff w_frames).mpr ⟨w_running, w_runnable, w_alone, w_named, w_hears, w_ripe, w_room, w_tables⟩
theorem atStart : AtStart classFile x code maxLocals ret World_1 tables_1 room_1 Calls_1 rest_1 Pre_1 launch0 p0 e0 about1 theMethod args0 below0 :=
  ⟨lists_1, trivial, launch0.admits_env _ _ _, launch0.least_env, fairChoices_fair.cas, fairChoices_fair.clock, w_frames, w_args, w_heap, w_applies, ⟨w_consts, trivial⟩, w_rest, w_case⟩
end start1
theorem witness_1 : WitnessClaimed_1 := ⟨start1.p0, start1.e0, start1.about1, start1.theMethod, start1.args0, start1.below0, start1.atStart⟩
end Jvm.Pilot.@@N@@
