import JvmDerived
import JvmDerived.Pilot.@@N@@Statement
import JvmDerived.Pilot.@@N@@Code
set_option linter.unusedVariables false
set_option linter.unusedSimpArgs false
namespace Jvm.RoadKit
open Sem ClassFile Op Lib Jvm.Stand Jvm.Free Jvm.LawKit
section New
variable {p : Program} {l : Launch} {e : Env} {R : Room} {s : State} {m : MethodId} {args : Array Value} {below : List Frame} {meth : Method} {c : Code} {T : State} {locs : List Loc} {cells slots : Nat}
theorem retI (X : Stand p l e R s m args below meth c T locs cells slots) (hx : p.tables.exec = Jvm.exec) {pc : Nat} {Ls : Array Slot} {z : Int32} {rest : List Value} (hret : meth.sig.returnType = some .int) (hd : decode c.code pc = .ok (.ireturn, 1)) {fs : List Frame}
    (hl : ∀ (f : JFrame) (acts : List Action), f.method = m → f.locked = none → f.entered = [] → (doReturn e (T.setTop f) acts (some (.int z))).1 = T.setFrames fs) : Steps p.tables e below (T.setTop (mkF m pc Ls (.int z :: rest))) (T.setFrames fs) := by
  have hm' : T.vm.method? m = some meth := X.method'
  have hn : narrow .int (.int z) = .int z := rfl
  show Steps p.tables e below (T.setTop { method := m, pc := pc, locals := Ls, stack := _ :: rest, locked := none }) _
  jvm_step X.here [X.here.top, hx, hd, hm', hret, hn]
  first | (intro acts; rw [hl _ acts rfl rfl rfl]) | rw [hl _ _ rfl rfl rfl]
  exact Steps.refl _
/-- from here the run ends as G says -/
def WP (tb : Tables) (e : Env) (below : List Frame) (G : State → Outcome → Prop) (T : State) (f : JFrame) : Prop := ∃ s₂ o, Steps tb e below (T.setTop f) s₂ ∧ G s₂ o
theorem WP.go {tb : Tables} {G : State → Outcome → Prop} {f : JFrame} (h : WP tb e below G T f) : ∃ s₂ o, Steps tb e below (T.setTop f) s₂ ∧ G s₂ o := h
theorem WP.fin {tb : Tables} {G : State → Outcome → Prop} {f : JFrame} (h : ∃ s₂ o, Steps tb e below (T.setTop f) s₂ ∧ G s₂ o) : WP tb e below G T f := h
theorem WP.cast {tb : Tables} {G : State → Outcome → Prop} {f f' : JFrame} (q : f = f') (h : WP tb e below G T f') : WP tb e below G T f := q ▸ h
theorem WP.st {tb : Tables} {G : State → Outcome → Prop} {T' : State} {f f' : JFrame} (k : ∀ t, Steps tb e below (T'.setTop f') t → Steps tb e below (T.setTop f) t) (h : WP tb e below G T' f') : WP tb e below G T f := by
  obtain ⟨s₂, o, h1, h2⟩ := h
  exact ⟨s₂, o, k _ h1, h2⟩
theorem WP.tr {tb : Tables} {G : State → Outcome → Prop} {T' : State} {f f' : JFrame} (k : Steps tb e below (T.setTop f) (T'.setTop f')) (h : WP tb e below G T' f') : WP tb e below G T f := by
  obtain ⟨s₂, o, h1, h2⟩ := h
  exact ⟨s₂, o, k.trans h1, h2⟩
theorem WP.name {tb : Tables} {G : State → Outcome → Prop} {f : JFrame} (h : ∀ G', G' = G → WP tb e below G' T f) : WP tb e below G T f := h G rfl
theorem ownWider (X : Stand p l e R s m args below meth c T locs cells slots) {c' s' : Nat} (h1 : cells ≤ c') (h2 : slots ≤ s') : Stand p l e R s m args below meth c T locs c' s' := { X with same := X.same.mono h1 h2 }
end New
theorem Arv.rd {Z : State} {h : Heap} {a : Addr} {k : ClassId} {ty : FieldType} {z j : Int32} {vs : List Value} {dv : Value} (F : Arv Z h a k ty z vs dv) (hj : ¬ j < 0 ∧ j < z) : ∃ c : Cell, Arr Z h a c ty ∧ ¬ (j < 0 ∨ c.slots.size ≤ j.toNatClampNeg) ∧ c.slots[j.toNatClampNeg]? = some (vs.getD j.toNatClampNeg dv) ∧ c.slots.size.toInt32 = z := by
  obtain ⟨c, A, -, S, q, H, -⟩ := F
  have hin := inb_of S hj
  exact ⟨c, A, hin, H.at hin rfl, len_of S q⟩
theorem Arv.len {Z : State} {h : Heap} {a : Addr} {k : ClassId} {ty : FieldType} {z : Int32} {vs : List Value} {dv : Value} (F : Arv Z h a k ty z vs dv) : ∃ c : Cell, Arr Z h a c ty ∧ c.slots.size.toInt32 = z := by
  obtain ⟨c, A, -, S, q, -, -⟩ := F
  exact ⟨c, A, len_of S q⟩
theorem ownSel {s : State} {args : Array Value} {C : String} {x z y : MethodName} (hz : (Cond.selects C x z).before args s = true) (e : z.cls = y.cls) (hpriv : s.PrivateAt y) (hinst : (Cond.instanceMethod y).before args s = true) (hy : y.cls ≠ "java/lang/invoke/MethodHandle" ∧ y.cls ≠ "java/lang/invoke/VarHandle") : (Cond.selects y.cls y y).before args s = true := by
  obtain ⟨c2, r2, m2, -, -, q3, -, kP, hkP, hkPi⟩ := Cond.selects_spec hz
  exact selects_self_of_private (e ▸ findClass_of_methodNamed q3) hkP hkPi hpriv hinst hy
theorem ownNeOr {o x y : Addr} {h : Heap} (hn : o ≠ y) (hl : o < h.size) (hor : x = y ∨ h.size ≤ x) : o ≠ x := hor.elim (fun q => q ▸ hn) (fun q => Nat.ne_of_lt (Nat.lt_of_lt_of_le hl q))
theorem ownFits {t : FieldType} {x : Int32} {y : Value} (h : narrow t (.int x) = y) (hf : fits t (narrow t (.int x)) = true) : fits t y = true := h ▸ hf
theorem nar01 {b : Int32} (h : b = 0 ∨ b = 1) : nar .boolean b = b := by rcases h with rfl | rfl <;> rfl
end Jvm.RoadKit
/- laws to paste: Road.backV (cut by pick.py; bodies as the Statement names them) -/
namespace Jvm.Pilot.@@N@@
namespace StrChars
open Jvm Sem ClassFile Op Lib Jvm.Stand Jvm.Free.XT Jvm.Free.ALB Jvm.Free.JM Jvm.Free
open Jvm.Lib.Cold (StaticIs)
/-- a char array whose places are chars -/
def Ch (a : Addr) (A : Cell) (U : State) : Prop := Arr .char a A U ∧ Typed .char A
theorem Ch.mv {a : Addr} {A : Cell} {U U' : State} (h : Ch a A U) (hal : U.vm.Alike U'.vm) (hh : U'.heap = U.heap) : Ch a A U' := ⟨h.1.mv hal hh, h.2⟩
theorem Ch.keep {a : Addr} {A : Cell} {U U' : State} (h : Ch a A U) (hal : U.vm.Alike U'.vm) (hk : U'.heap[a]? = some A) : Ch a A U' := ⟨h.1.keep hal hk, h.2⟩
/-- what place i of a char[]'s cell holds -/
def cv (A : Cell) (i : Nat) : Int32 := match A.slots[i]? with | some (.int x) => x | _ => 0
theorem Ch.get {a : Addr} {A : Cell} {U : State} (h : Ch a A U) {i : Nat} (hi : i < A.slots.size) : A.slots[i]? = some (.int (cv A i)) := by
  have e := Array.getElem?_eq_getElem hi
  have f := h.2 i _ e
  unfold cv; rw [e]
  generalize A.slots[i] = v at f
  cases v <;> simp [fits] at f ⊢
/-- the byte that i2b leaves of a char -/
def lo8 (x : Int32) : Int32 := x.toInt8.toInt32
theorem fits_lo8 (y : Int32) : fits .byte (.int (lo8 y)) = true := by
  have h1 := y.toInt8.le_toInt
  have h2 := y.toInt8.toInt_lt
  simp only [lo8, fits, Bool.and_eq_true, decide_eq_true_eq, Int32.le_iff_toInt_le, Int8.toInt_toInt32, show (-128 : Int32).toInt = -128 from by decide, show (127 : Int32).toInt = 127 from by decide]
  omega
/-- A' is A but that each place j of lo .. hi - 1 holds f j -/
def Laid (A A' : Cell) (lo hi : Nat) (f : Nat → Value) : Prop := A'.cls = A.cls ∧ A'.vm = A.vm ∧ A'.slots.size = A.slots.size ∧ ∀ i, A'.slots[i]? = if lo ≤ i ∧ i < hi then some (f i) else A.slots[i]?
theorem Laid.zero (A : Cell) (lo : Nat) (f : Nat → Value) : Laid A A lo (lo + 0) f := ⟨rfl, rfl, rfl, fun i => by rw [if_neg (by omega)]⟩
theorem Laid.step {A Ak : Cell} {lo k : Nat} {f : Nat → Value} {v : Value} (h : Laid A Ak lo k f) (hlo : lo ≤ k) (hk : k < Ak.slots.size) (hv : v = f k) : Laid A (Ak.setSlot k v) lo (k + 1) f := by
  refine ⟨h.1, h.2.1, by simpa [Cell.setSlot] using h.2.2.1, fun i => ?_⟩
  by_cases e : k = i
  · subst e; rw [Cell.slots_setSlot_self v hk, if_pos (by omega), hv]
  · rw [Cell.slots_setSlot_ne v e, h.2.2.2 i]
    by_cases q : lo ≤ i ∧ i < k
    · rw [if_pos q, if_pos (by omega)]
    · rw [if_neg q, if_neg (by omega)]
def U16 : String := "java/lang/StringUTF16"
namespace Cmp5
def yN : MethodName := ⟨"java/lang/StringUTF16", "compress", "([CI[BII)I"⟩
abbrev yB : ByteArray := jdk_52_method_21_code
theorem d0 : decode yB 0 = .ok (.iconst 0, 1) := by decide +kernel
theorem d1 : decode yB 1 = .ok (.istore 5, 2) := by decide +kernel
theorem d3 : decode yB 3 = .ok (.iload 5, 2) := by decide +kernel
theorem d5 : decode yB 5 = .ok (.iload 4, 2) := by decide +kernel
theorem d7 : decode yB 7 = .ok (.if_icmp (.ge) 37, 3) := by decide +kernel
theorem d10 : decode yB 10 = .ok (.aload_n 0, 1) := by decide +kernel
theorem d11 : decode yB 11 = .ok (.iload_n 1, 1) := by decide +kernel
theorem d12 : decode yB 12 = .ok (.caload, 1) := by decide +kernel
theorem d13 : decode yB 13 = .ok (.istore 6, 2) := by decide +kernel
theorem d15 : decode yB 15 = .ok (.iload 6, 2) := by decide +kernel
theorem d17 : decode yB 17 = .ok (.sipush 255, 3) := by decide +kernel
theorem d20 : decode yB 20 = .ok (.if_icmp (.le) 6, 3) := by decide +kernel
theorem d26 : decode yB 26 = .ok (.aload_n 2, 1) := by decide +kernel
theorem d27 : decode yB 27 = .ok (.iload_n 3, 1) := by decide +kernel
theorem d28 : decode yB 28 = .ok (.iload 6, 2) := by decide +kernel
theorem d30 : decode yB 30 = .ok (.i2b, 1) := by decide +kernel
theorem d31 : decode yB 31 = .ok (.bastore, 1) := by decide +kernel
theorem d32 : decode yB 32 = .ok (.iinc 1 1, 3) := by decide +kernel
theorem d35 : decode yB 35 = .ok (.iinc 3 1, 3) := by decide +kernel
theorem d38 : decode yB 38 = .ok (.iinc 5 1, 3) := by decide +kernel
theorem d41 : decode yB 41 = .ok (.goto (-38), 3) := by decide +kernel
theorem d44 : decode yB 44 = .ok (.iload 4, 2) := by decide +kernel
theorem d46 : decode yB 46 = .ok (.ireturn, 1) := by decide +kernel
def site : List Cond := []
def tab : Cond := tabOf yN yB 7 (some .int) site
def P (b : Addr) (A : Cell) (d : Addr) (B : Cell) (o q len : Nat) (args : Array Value) (s : State) : Prop := args = #[.ref b, .int (Int32.ofNat o), .ref d, .int (Int32.ofNat q), .int (Int32.ofNat len)] ∧ Ch b A s ∧ Arr .byte d B s ∧ b ≠ d ∧ o + len ≤ A.slots.size ∧ q + len ≤ B.slots.size ∧ ∀ i, i < len → ¬ 255 < cv A (o + i)
def E (b : Addr) (A : Cell) (d : Addr) (B : Cell) (o q len : Nat) (r : Option Value) (s u : State) : Prop := r = some (.int (Int32.ofNat len)) ∧ ∃ B', Put d B' s u ∧ Laid B B' q (q + len) (fun j => Value.int (lo8 (cv A (o + (j - q)))))
/-- no char of the range above 255: len; the places written hold each char's low byte -/
theorem law (l : Launch) (b : Addr) (A : Cell) (d : Addr) (B : Cell) (o q len : Nat) : Law l yN 5 5 0 0 yB 7 (some .int) site (P b A d B o q len) (E b A d B o q len) (copyLocs d q len) 0 0 := by
  refine Law.of_walk (plainFor_of_name (by decide +kernel)) (by decide +kernel) (by decide +kernel) (by decide) (fun _ _ h => by rw [h.1]; rfl) (fun _ U U' hal hh h => ⟨h.1, h.2.1.mv hal hh, h.2.2.1.mv hal hh, h.2.2.2⟩) (fun r U U' V V' h1 hal h2 h => ⟨h.1, h.2.elim fun B' q => ⟨B', q.1.mv h1 h2, q.2⟩⟩) ?_
  intro p e s m args below meth c s₁ X0 hexec hbytes hml hret hlk hnm hown hh0 W hP
  obtain ⟨rfl, hA, hB, hne, l1, l2, hp⟩ := hP
  have c1 : Steps p.tables e below (s₁.setTop (entryFrame m #[.ref b, .int (Int32.ofNat o), .ref d, .int (Int32.ofNat q), .int (Int32.ofNat len)] 7)) (s₁.setTop (mkF m 0 #[.val (.ref b), .val (.int (Int32.ofNat o)), .val (.ref d), .val (.int (Int32.ofNat q)), .val (.int (Int32.ofNat len)), .unset, .unset] [])) := entry rfl
  have hA0 := hA.1.mv X0.warmed.alike hh0
  have hB0 := hB.mv X0.warmed.alike hh0
  have a31 := hA.1.2.2.2
  have c2 : Steps p.tables e below (s₁.setTop (entryFrame m #[.ref b, .int (Int32.ofNat o), .ref d, .int (Int32.ofNat q), .int (Int32.ofNat len)] 7)) (s₁.setTop (mkF m 3 #[.val (.ref b), .val (.int (Int32.ofNat o)), .val (.ref d), .val (.int (Int32.ofNat q)), .val (.int (Int32.ofNat len)), .val (.int 0), .unset] [])) := c1.trans (by
    refine iconstV X0.here hexec rfl 0 (hb hbytes d0) (by decide) ?_
    refine XS.istore X0.here hexec rfl (hb hbytes d1) rfl rfl ?_
    exact Steps.refl _)
  have loop : ∀ (r i : Nat), i + r = len → ∀ (z : Slot), (z = .unset ∨ ∃ w, z = .val w ∧ w.category = 1) → ∀ (Tl : State) (Bk : Cell), Stand p l e { frames := 0, locals := 0, cells := 0, slots := 0 } s m #[.ref b, .int (Int32.ofNat o), .ref d, .int (Int32.ofNat q), .int (Int32.ofNat len)] below meth c Tl ([] ++ copyLocs d q i) 0 0 → Put d Bk s₁ Tl → Laid B Bk q (q + i) (fun j => Value.int (lo8 (cv A (o + (j - q))))) →
      Steps p.tables e below (s₁.setTop (entryFrame m #[.ref b, .int (Int32.ofNat o), .ref d, .int (Int32.ofNat q), .int (Int32.ofNat len)] 7)) (Tl.setTop (mkF m 3 #[.val (.ref b), .val (.int (Int32.ofNat (o + i))), .val (.ref d), .val (.int (Int32.ofNat (q + i))), .val (.int (Int32.ofNat len)), .val (.int (Int32.ofNat i)), z] [])) → ∃ (T' : State) (B' : Cell) (z' : Slot), Stand p l e { frames := 0, locals := 0, cells := 0, slots := 0 } s m #[.ref b, .int (Int32.ofNat o), .ref d, .int (Int32.ofNat q), .int (Int32.ofNat len)] below meth c T' ([] ++ copyLocs d q len) 0 0 ∧ Put d B' s₁ T' ∧ Laid B B' q (q + len) (fun j => Value.int (lo8 (cv A (o + (j - q))))) ∧
      Steps p.tables e below (s₁.setTop (entryFrame m #[.ref b, .int (Int32.ofNat o), .ref d, .int (Int32.ofNat q), .int (Int32.ofNat len)] 7)) (T'.setTop (mkF m 3 #[.val (.ref b), .val (.int (Int32.ofNat (o + len))), .val (.ref d), .val (.int (Int32.ofNat (q + len))), .val (.int (Int32.ofNat len)), .val (.int (Int32.ofNat len)), z'] [])) := by
    intro r
    induction r with
    | zero =>
      intro i hi z hz Tl Bk Xl pl fl cl
      have hil : i = len := by omega
      rw [hil] at Xl fl cl
      exact ⟨Tl, Bk, z, Xl, pl, fl, cl⟩
    | succ r ih =>
      intro i hi z hz Tl Bk Xl pl fl cl
      have all := X0.warmed.alike.symm.trans Xl.warmed.alike
      have hAl := hA0.keep all (pl.other hne hA0.1)
      have hBk := hB0.like all pl.1 fl.1 fl.2.1 fl.2.2.1
      have hlt : q + i < Bk.slots.size := by rw [fl.2.2.1]; omega
      have c3 : Steps p.tables e below (s₁.setTop (entryFrame m #[.ref b, .int (Int32.ofNat o), .ref d, .int (Int32.ofNat q), .int (Int32.ofNat len)] 7)) (Tl.setTop (mkF m 12 #[.val (.ref b), .val (.int (Int32.ofNat (o + i))), .val (.ref d), .val (.int (Int32.ofNat (q + i))), .val (.int (Int32.ofNat len)), .val (.int (Int32.ofNat i)), z] [.int (Int32.ofNat (o + i)), .ref b])) := cl.trans (by
        refine XS.iload Xl.here hexec rfl (hb hbytes d3) rfl ?_
        refine XS.iload Xl.here hexec rfl (hb hbytes d5) rfl ?_
        refine XS.icmpNo Xl.here hexec rfl (hb hbytes d7) rfl (ii_ge_f (lt32 (by omega) (by omega))) ?_
        refine XS.aloadN Xl.here hexec rfl (hb hbytes d10) rfl rfl ?_
        refine XS.iloadN Xl.here hexec rfl (hb hbytes d11) rfl ?_
        exact Steps.refl _)
      have c4 : Steps p.tables e below (s₁.setTop (entryFrame m #[.ref b, .int (Int32.ofNat o), .ref d, .int (Int32.ofNat q), .int (Int32.ofNat len)] 7)) (Tl.setTop (mkF m 13 #[.val (.ref b), .val (.int (Int32.ofNat (o + i))), .val (.ref d), .val (.int (Int32.ofNat (q + i))), .val (.int (Int32.ofNat len)), .val (.int (Int32.ofNat i)), z] [.int (cv A (o + i))])) := c3.trans (by
        refine Xl.aget hexec hAl rfl (hA.get (i := o + i) (by omega)) rfl rfl (hb hbytes d12) ?_
        exact Steps.refl _)
      have c5 : Steps p.tables e below (s₁.setTop (entryFrame m #[.ref b, .int (Int32.ofNat o), .ref d, .int (Int32.ofNat q), .int (Int32.ofNat len)] 7)) (Tl.setTop (mkF m 15 #[.val (.ref b), .val (.int (Int32.ofNat (o + i))), .val (.ref d), .val (.int (Int32.ofNat (q + i))), .val (.int (Int32.ofNat len)), .val (.int (Int32.ofNat i)), .val (.int (cv A (o + i)))] [])) := c4.trans (by
        refine XS.istoreS Xl.here hexec rfl (hb hbytes d13) rfl rfl hz ?_
        exact Steps.refl _)
      have c6 : Steps p.tables e below (s₁.setTop (entryFrame m #[.ref b, .int (Int32.ofNat o), .ref d, .int (Int32.ofNat q), .int (Int32.ofNat len)] 7)) (Tl.setTop (mkF m 31 #[.val (.ref b), .val (.int (Int32.ofNat (o + i))), .val (.ref d), .val (.int (Int32.ofNat (q + i))), .val (.int (Int32.ofNat len)), .val (.int (Int32.ofNat i)), .val (.int (cv A (o + i)))] [.int (lo8 (cv A (o + i))), .int (Int32.ofNat (q + i)), .ref d])) := c5.trans (by
        refine XS.iload Xl.here hexec rfl (hb hbytes d15) rfl ?_
        refine sipushV Xl.here hexec rfl 255 (hb hbytes d17) (by decide) ?_
        refine XS.icmpYes Xl.here hexec rfl (pc0 := 20) rfl (hb hbytes d20) rfl (ii_le_t (hp i (by omega))) (by decide) rfl ?_
        refine XS.aloadN Xl.here hexec rfl (hb hbytes d26) rfl rfl ?_
        refine XS.iloadN Xl.here hexec rfl (hb hbytes d27) rfl ?_
        refine XS.iload Xl.here hexec rfl (hb hbytes d28) rfl ?_
        refine i2b Xl.here hexec rfl (hb hbytes d30) rfl ?_
        exact Steps.refl _)
      obtain ⟨T7, X7, p7, st7⟩ := Xl.aput hexec hBk rfl hlt rfl (fits_lo8 (cv A (o + i))) (g := (mkF m 31 #[.val (.ref b), .val (.int (Int32.ofNat (o + i))), .val (.ref d), .val (.int (Int32.ofNat (q + i))), .val (.int (Int32.ofNat len)), .val (.int (Int32.ofNat i)), .val (.int (cv A (o + i)))] [.int (lo8 (cv A (o + i))), .int (Int32.ofNat (q + i)), .ref d])) rfl (rest := []) rfl (hb hbytes d31)
      have c8 : Steps p.tables e below (s₁.setTop (entryFrame m #[.ref b, .int (Int32.ofNat o), .ref d, .int (Int32.ofNat q), .int (Int32.ofNat len)] 7)) (T7.setTop (mkF m 32 #[.val (.ref b), .val (.int (Int32.ofNat (o + i))), .val (.ref d), .val (.int (Int32.ofNat (q + i))), .val (.int (Int32.ofNat len)), .val (.int (Int32.ofNat i)), .val (.int (cv A (o + i)))] [])) := c6.trans (st7 _ (Steps.refl _))
      have c9 : Steps p.tables e below (s₁.setTop (entryFrame m #[.ref b, .int (Int32.ofNat o), .ref d, .int (Int32.ofNat q), .int (Int32.ofNat len)] 7)) (T7.setTop (mkF m 3 #[.val (.ref b), .val (.int (Int32.ofNat (o + i) + 1)), .val (.ref d), .val (.int (Int32.ofNat (q + i) + 1)), .val (.int (Int32.ofNat len)), .val (.int (Int32.ofNat i + 1)), .val (.int (cv A (o + i)))] [])) := c8.trans (by
        refine iincV X7.here hexec rfl 1 (hb hbytes d32) (by decide) rfl rfl ?_
        refine iincV X7.here hexec rfl 1 (hb hbytes d35) (by decide) rfl rfl ?_
        refine iincV X7.here hexec rfl 1 (hb hbytes d38) (by decide) rfl rfl ?_
        refine XS.goto X7.here hexec rfl (pc0 := 41) rfl (hb hbytes d41) (by decide) rfl ?_
        exact Steps.refl _)
      have c10 : Steps p.tables e below (s₁.setTop (entryFrame m #[.ref b, .int (Int32.ofNat o), .ref d, .int (Int32.ofNat q), .int (Int32.ofNat len)] 7)) (T7.setTop (mkF m 3 #[.val (.ref b), .val (.int (Int32.ofNat (o + (i + 1)))), .val (.ref d), .val (.int (Int32.ofNat (q + (i + 1)))), .val (.int (Int32.ofNat len)), .val (.int (Int32.ofNat (i + 1))), .val (.int (cv A (o + i)))] [])) := by
        have := c9
        rw [succ32, succ32, succ32] at this
        exact this
      exact ih (i + 1) (by omega) _ (Or.inr ⟨_, rfl, rfl⟩) T7 _ (by rw [copyLocs_step, ← List.append_assoc]; exact X7) (pl.trans p7) (fl.step (by omega) hlt (by simp)) c10
  obtain ⟨T9, B9, z9, X9, p9, f9, g9⟩ := loop len 0 (by omega) .unset (Or.inl rfl) s₁ B (by simpa [copyLocs] using X0) ⟨hB0.1, fun _ _ => rfl, rfl⟩ (Laid.zero _ _ _) c2
  have c11 : Steps p.tables e below (s₁.setTop (entryFrame m #[.ref b, .int (Int32.ofNat o), .ref d, .int (Int32.ofNat q), .int (Int32.ofNat len)] 7)) (T9.setTop (mkF m 46 #[.val (.ref b), .val (.int (Int32.ofNat (o + len))), .val (.ref d), .val (.int (Int32.ofNat (q + len))), .val (.int (Int32.ofNat len)), .val (.int (Int32.ofNat len)), z9] [.int (Int32.ofNat len)])) := g9.trans (by
    refine XS.iload X9.here hexec rfl (hb hbytes d3) rfl ?_
    refine XS.iload X9.here hexec rfl (hb hbytes d5) rfl ?_
    refine XS.icmpYes X9.here hexec rfl (pc0 := 7) rfl (hb hbytes d7) rfl (ii_ge_t (nlt32 (by omega) (Nat.le_refl _))) (by decide) rfl ?_
    refine XS.iload X9.here hexec rfl (hb hbytes d44) rfl ?_
    exact Steps.refl _)
  exact ⟨T9, some (.int (Int32.ofNat len)), _, _, _, X9, by simp, rfl, rfl, (fun h => by cases h), ⟨rfl, B9, p9.from hh0, f9⟩, fun fs hl => c11.trans (X9.ireturnOut hexec hret rfl (Or.inl rfl) (hb hbytes d46) hl)⟩
end Cmp5
namespace Cmp3
def yN : MethodName := ⟨"java/lang/StringUTF16", "compress", "([CII)[B"⟩
abbrev yB : ByteArray := jdk_52_method_16_code
theorem d0 : decode yB 0 = .ok (.iload_n 2, 1) := by decide +kernel
theorem d1 : decode yB 1 = .ok (.newarray .byte, 2) := by decide +kernel
theorem d3 : decode yB 3 = .ok (.astore_n 3, 1) := by decide +kernel
theorem d4 : decode yB 4 = .ok (.aload_n 0, 1) := by decide +kernel
theorem d5 : decode yB 5 = .ok (.iload_n 1, 1) := by decide +kernel
theorem d6 : decode yB 6 = .ok (.aload_n 3, 1) := by decide +kernel
theorem d7 : decode yB 7 = .ok (.iconst 0, 1) := by decide +kernel
theorem d8 : decode yB 8 = .ok (.iload_n 2, 1) := by decide +kernel
theorem d9 : decode yB 9 = .ok (.invokestatic 115, 3) := by decide +kernel
theorem d12 : decode yB 12 = .ok (.istore 4, 2) := by decide +kernel
theorem d14 : decode yB 14 = .ok (.iload 4, 2) := by decide +kernel
theorem d16 : decode yB 16 = .ok (.iload_n 2, 1) := by decide +kernel
theorem d17 : decode yB 17 = .ok (.if_icmp (.eq) 40, 3) := by decide +kernel
theorem d57 : decode yB 57 = .ok (.aload_n 3, 1) := by decide +kernel
theorem d58 : decode yB 58 = .ok (.areturn, 1) := by decide +kernel
def site : List Cond := [.arrayClass .byte, Cmp5.tab] ++ staticW U16 115 Cmp5.yN
def tab : Cond := tabOf yN yB 6 (some (.array .byte)) site
def P (b : Addr) (A : Cell) (o len : Nat) (args : Array Value) (s : State) : Prop := args = #[.ref b, .int (Int32.ofNat o), .int (Int32.ofNat len)] ∧ Ch b A s ∧ o + len ≤ A.slots.size ∧ len ≤ 536870912 ∧ ∀ i, i < len → ¬ 255 < cv A (o + i)
def E (b : Addr) (A : Cell) (o len : Nat) (r : Option Value) (s u : State) : Prop := NewArr .byte "[B" len (fun j => .int (lo8 (cv A (o + j)))) r s u ∧ u.heap.size = s.heap.size + 1
/-- no char of the range above 255: a new byte[] of their low bytes -/
theorem law (l : Launch) (b : Addr) (A : Cell) (o len : Nat) : Law l yN 3 3 1 18 yB 6 (some (.array .byte)) site (P b A o len) (E b A o len) [] 1 len := by
  refine Law.of_walk (plainFor_of_name (by decide +kernel)) (by decide +kernel) (by decide +kernel) (by decide) (fun _ _ h => by rw [h.1]; rfl) (fun _ U U' hal hh h => ⟨h.1, h.2.1.mv hal hh, h.2.2⟩) (fun r U U' V V' h1 hal h2 h => ⟨NewArr.mv r U U' V V' h1 hal h2 h.1, by rw [h1, h2]; exact h.2⟩) ?_
  intro p e s m args below meth c s₁ X0 hexec hbytes hml hret hlk hnm hown hh0 W hP
  obtain ⟨rfl, hA, l1, l2, hp⟩ := hP
  have a31 := hA.1.2.2.2
  have c1 : Steps p.tables e below (s₁.setTop (entryFrame m #[.ref b, .int (Int32.ofNat o), .int (Int32.ofNat len)] 6)) (s₁.setTop (mkF m 0 #[.val (.ref b), .val (.int (Int32.ofNat o)), .val (.int (Int32.ofNat len)), .unset, .unset, .unset] [])) := entry rfl
  have c2 : Steps p.tables e below (s₁.setTop (entryFrame m #[.ref b, .int (Int32.ofNat o), .int (Int32.ofNat len)] 6)) (s₁.setTop (mkF m 1 #[.val (.ref b), .val (.int (Int32.ofNat o)), .val (.int (Int32.ofNat len)), .unset, .unset, .unset] [.int (Int32.ofNat len)])) := c1.trans (by
    refine XS.iloadN X0.here hexec rfl (hb hbytes d0) rfl ?_
    exact Steps.refl _)
  obtain ⟨T3, B3, X3, ba3, bs3, bv3, bh3, bf3, st3⟩ := X0.anew hexec (atype := .byte) (wk W (.arrayClass .byte)) rfl (by show len * 1 ≤ _; omega) (by omega) (g := (mkF m 1 #[.val (.ref b), .val (.int (Int32.ofNat o)), .val (.int (Int32.ofNat len)), .unset, .unset, .unset] [.int (Int32.ofNat len)])) rfl (hb hbytes d1) (rest := []) rfl (Nat.le_refl _) (by show 0 + len ≤ len; omega)
  rw [hh0] at ba3 st3
  have kp3 : XT.Kept s T3 := (XT.Kept.of_eq hh0).push bh3
  have hA3 := hA.keep X3.warmed.alike (kp3 _ _ hA.1.1)
  have hne : b ≠ s.heap.size := hA.1.ne
  have c4 : Steps p.tables e below (s₁.setTop (entryFrame m #[.ref b, .int (Int32.ofNat o), .int (Int32.ofNat len)] 6)) (T3.setTop (mkF m 3 #[.val (.ref b), .val (.int (Int32.ofNat o)), .val (.int (Int32.ofNat len)), .unset, .unset, .unset] [.ref s.heap.size])) := c2.trans (st3 _ (Steps.refl _))
  have c5 : Steps p.tables e below (s₁.setTop (entryFrame m #[.ref b, .int (Int32.ofNat o), .int (Int32.ofNat len)] 6)) (T3.setTop (mkF m 9 #[.val (.ref b), .val (.int (Int32.ofNat o)), .val (.int (Int32.ofNat len)), .val (.ref s.heap.size), .unset, .unset] [.int (Int32.ofNat len), .int 0, .ref s.heap.size, .int (Int32.ofNat o), .ref b])) := c4.trans (by
    refine XS.astoreN X3.here hexec rfl (hb hbytes d3) rfl rfl rfl ?_
    refine XS.aloadN X3.here hexec rfl (hb hbytes d4) rfl rfl ?_
    refine XS.iloadN X3.here hexec rfl (hb hbytes d5) rfl ?_
    refine XS.aloadN X3.here hexec rfl (hb hbytes d6) rfl rfl ?_
    refine iconstV X3.here hexec rfl 0 (hb hbytes d7) (by decide) ?_
    refine XS.iloadN X3.here hexec rfl (hb hbytes d8) rfl ?_
    exact Steps.refl _)
  obtain ⟨v6, T6, X6, E6, g6⟩ := X3.callS hexec (Cmp5.law l b A s.heap.size B3 o 0 len) hown (wks W (staticW U16 115 Cmp5.yN)) (wk W Cmp5.tab) (W := 0) (Nat.le_of_ble_eq_true rfl) (Nat.le_of_ble_eq_true rfl) (Nat.le_refl _) (by show 0 + len + 0 ≤ len; omega) (g := (mkF m 9 #[.val (.ref b), .val (.int (Int32.ofNat o)), .val (.int (Int32.ofNat len)), .val (.ref s.heap.size), .unset, .unset] [.int (Int32.ofNat len), .int (Int32.ofNat 0), .ref s.heap.size, .int (Int32.ofNat o), .ref b])) rfl (by rw [hml]; rfl) c5 (argsL := [.ref b, .int (Int32.ofNat o), .ref s.heap.size, .int (Int32.ofNat 0), .int (Int32.ofNat len)]) (rest := []) rfl rfl (by show 2 * 0 + 0 ≤ _; decide) (hb hbytes d9) (⟨rfl, hA3, ba3, hne, l1, by rw [bs3]; simp, hp⟩)
  obtain ⟨rfl, B6, p6, f6⟩ := E6
  have c7 : Steps p.tables e below (s₁.setTop (entryFrame m #[.ref b, .int (Int32.ofNat o), .int (Int32.ofNat len)] 6)) (T6.setTop (mkF m 12 #[.val (.ref b), .val (.int (Int32.ofNat o)), .val (.int (Int32.ofNat len)), .val (.ref s.heap.size), .unset, .unset] [.int (Int32.ofNat len)])) := g6
  have c8 : Steps p.tables e below (s₁.setTop (entryFrame m #[.ref b, .int (Int32.ofNat o), .int (Int32.ofNat len)] 6)) (T6.setTop (mkF m 58 #[.val (.ref b), .val (.int (Int32.ofNat o)), .val (.int (Int32.ofNat len)), .val (.ref s.heap.size), .val (.int (Int32.ofNat len)), .unset] [.ref s.heap.size])) := c7.trans (by
    refine XS.istore X6.here hexec rfl (hb hbytes d12) rfl rfl ?_
    refine XS.iload X6.here hexec rfl (hb hbytes d14) rfl ?_
    refine XS.iloadN X6.here hexec rfl (hb hbytes d16) rfl ?_
    refine XS.icmpYes X6.here hexec rfl (pc0 := 17) rfl (hb hbytes d17) rfl (ii_eq_t rfl) (by decide) rfl ?_
    refine XS.aloadN X6.here hexec rfl (hb hbytes d57) rfl rfl ?_
    exact Steps.refl _)
  have X8 := X6.wide (L' := []) (cells' := 1) (slots' := len) (fun x hx hlt => by
    simp only [List.nil_append, copyLocs, List.mem_map, List.mem_range] at hx
    obtain ⟨i, -, rfl⟩ := hx
    exact absurd hlt (Nat.lt_irrefl _)) (Nat.le_refl _) (by omega)
  exact ⟨T6, some (.ref s.heap.size), _, _, _, X8, rfl, rfl, rfl, (fun h => by cases h), ⟨⟨rfl, B6, ba3.like (X3.warmed.alike.symm.trans X6.warmed.alike) p6.1 f6.1 f6.2.1 f6.2.2.1, f6.2.1.trans bv3, by rw [X6.warmed.alike.findClass, f6.1]; exact bf3, by rw [f6.2.2.1, bs3]; simp, fun j hj => by rw [f6.2.2.2 j, if_pos (by omega)]; rfl, kp3.put p6 (Nat.le_refl _)⟩, by rw [p6.2.2, bh3, hh0]; simp⟩, fun fs hl => c8.trans (X8.areturnOut hexec rfl hret rfl (hb hbytes d58) hl)⟩
end Cmp3
namespace CodL
def yN : MethodName := ⟨"java/lang/StringUTF16", "coderFromArrayLen", "([BI)B"⟩
abbrev yB : ByteArray := jdk_52_method_15_code
theorem d0 : decode yB 0 = .ok (.iload_n 1, 1) := by decide +kernel
theorem d1 : decode yB 1 = .ok (.aload_n 0, 1) := by decide +kernel
theorem d2 : decode yB 2 = .ok (.arraylength, 1) := by decide +kernel
theorem d3 : decode yB 3 = .ok (.isub, 1) := by decide +kernel
theorem d4 : decode yB 4 = .ok (.bipush 31, 2) := by decide +kernel
theorem d6 : decode yB 6 = .ok (.iushr, 1) := by decide +kernel
theorem d7 : decode yB 7 = .ok (.i2b, 1) := by decide +kernel
theorem d8 : decode yB 8 = .ok (.ireturn, 1) := by decide +kernel
def site : List Cond := []
def tab : Cond := tabOf yN yB 2 (some .byte) site
def P (d : Addr) (B : Cell) (args : Array Value) (s : State) : Prop := args = #[.ref d, .int (Int32.ofNat B.slots.size)] ∧ Arr .byte d B s
def E (r : Option Value) (s u : State) : Prop := XT.PureE (some (.int 0)) r s u
/-- an array as long as the number of chars: LATIN1 -/
theorem law (l : Launch) (d : Addr) (B : Cell) : Law l yN 2 2 0 0 yB 2 (some .byte) site (P d B) E [] 0 0 := by
  refine Law.of_walk (plainFor_of_name (by decide +kernel)) (by decide +kernel) (by decide +kernel) (by decide) (fun _ _ h => by rw [h.1]; rfl) (fun _ U U' hal hh h => ⟨h.1, h.2.mv hal hh⟩) (fun r U U' V V' h1 hal h2 h => XT.PureE.mv r U U' V V' h1 hal h2 h) ?_
  intro p e s m args below meth c s₁ X0 hexec hbytes hml hret hlk hnm hown hh0 W hP
  obtain ⟨rfl, hB⟩ := hP
  have hB0 := hB.mv X0.warmed.alike hh0
  have c1 : Steps p.tables e below (s₁.setTop (entryFrame m #[.ref d, .int (Int32.ofNat B.slots.size)] 2)) (s₁.setTop (mkF m 0 #[.val (.ref d), .val (.int (Int32.ofNat B.slots.size))] [])) := entry rfl
  have c2 : Steps p.tables e below (s₁.setTop (entryFrame m #[.ref d, .int (Int32.ofNat B.slots.size)] 2)) (s₁.setTop (mkF m 2 #[.val (.ref d), .val (.int (Int32.ofNat B.slots.size))] [.ref d, .int (Int32.ofNat B.slots.size)])) := c1.trans (by
    refine XS.iloadN X0.here hexec rfl (hb hbytes d0) rfl ?_
    refine XS.aloadN X0.here hexec rfl (hb hbytes d1) rfl rfl ?_
    exact Steps.refl _)
  have c3 : Steps p.tables e below (s₁.setTop (entryFrame m #[.ref d, .int (Int32.ofNat B.slots.size)] 2)) (s₁.setTop (mkF m 8 #[.val (.ref d), .val (.int (Int32.ofNat B.slots.size))] [.int (lo8 (ushr (Int32.ofNat B.slots.size - Int32.ofNat B.slots.size) 31))])) := c2.trans (by
    refine X0.alen hexec hB0 rfl rfl (hb hbytes d2) ?_
    refine XS.isub X0.here hexec rfl (hb hbytes d3) rfl ?_
    refine bipushV X0.here hexec rfl 31 (hb hbytes d4) (by decide) ?_
    refine iushr X0.here hexec rfl (hb hbytes d6) rfl ?_
    refine i2b X0.here hexec rfl (hb hbytes d7) rfl ?_
    exact Steps.refl _)
  have e0 : lo8 (ushr (Int32.ofNat B.slots.size - Int32.ofNat B.slots.size) 31) = 0 := by rw [Int32.sub_self]; decide
  rw [e0] at c3
  exact ⟨s₁, some (.int 0), _, _, _, X0, rfl, rfl, rfl, (fun h => by cases h), ⟨rfl, hh0⟩, fun fs hl => c3.trans (X0.ireturnOut hexec hret rfl (Or.inr (Or.inr (Or.inl rfl))) (hb hbytes d8) hl)⟩
end CodL
/-- the String at a is Latin-1 over a new byte[] (the heap's one new cell): the low bytes of the len chars of A from o on; every cell but a is kept -/
def Got (a : Addr) (D : Cell) (fV fC : Field) (A : Cell) (o len : Nat) (r : Option Value) (s u : State) : Prop := r = none ∧ ∃ D' V : Cell, Blank "java/lang/String" a D' u ∧ Same D D' [fV.slot, fC.slot] ∧ D'.slots[fV.slot]? = some (.ref s.heap.size) ∧ D'.slots[fC.slot]? = some (.int 0) ∧ Arr .byte s.heap.size V u ∧ V.vm = .none ∧ u.vm.findClass "[B" = some V.cls ∧ V.slots.size = len ∧ (∀ j, j < len → V.slots[j]? = some (.int (lo8 (cv A (o + j))))) ∧ (∀ (y : Addr) (c : Cell), y ≠ a → s.heap[y]? = some c → u.heap[y]? = some c) ∧ u.heap.size = s.heap.size + 1
theorem Got.mv {a : Addr} {D A : Cell} {fV fC : Field} {o len : Nat} : ∀ r (U U' V V' : State), U'.heap = U.heap → V.vm.Alike V'.vm → V'.heap = V.heap → Got a D fV fC A o len r U V → Got a D fV fC A o len r U' V' :=
  fun r U U' V V' h1 hal h2 ⟨e0, D', X, a1, a2, a3, a4, a5, a6, a7, a8, a9, a10, a11⟩ => ⟨e0, D', X, a1.mv hal h2, a2, by rw [h1]; exact a3, a4, by rw [h1]; exact a5.mv hal h2, a6, by rw [hal.findClass]; exact a7, a8, a9, by rw [h1, h2]; exact a10, by rw [h1, h2]; exact a11⟩
namespace New4
def yN : MethodName := ⟨"java/lang/String", "<init>", "([CIILjava/lang/Void;)V"⟩
abbrev yB : ByteArray := jdk_42_method_149_code
theorem d0 : decode yB 0 = .ok (.aload_n 0, 1) := by decide +kernel
theorem d1 : decode yB 1 = .ok (.invokespecial 1, 3) := by decide +kernel
theorem d4 : decode yB 4 = .ok (.iload_n 3, 1) := by decide +kernel
theorem d5 : decode yB 5 = .ok (.ifCond (.ne) 22, 3) := by decide +kernel
theorem d27 : decode yB 27 = .ok (.getstatic 38, 3) := by decide +kernel
theorem d30 : decode yB 30 = .ok (.ifCond (.eq) 28, 3) := by decide +kernel
theorem d33 : decode yB 33 = .ok (.aload_n 1, 1) := by decide +kernel
theorem d34 : decode yB 34 = .ok (.iload_n 2, 1) := by decide +kernel
theorem d35 : decode yB 35 = .ok (.iload_n 3, 1) := by decide +kernel
theorem d36 : decode yB 36 = .ok (.invokestatic 177, 3) := by decide +kernel
theorem d39 : decode yB 39 = .ok (.astore 5, 2) := by decide +kernel
theorem d41 : decode yB 41 = .ok (.aload_n 0, 1) := by decide +kernel
theorem d42 : decode yB 42 = .ok (.aload 5, 2) := by decide +kernel
theorem d44 : decode yB 44 = .ok (.iload_n 3, 1) := by decide +kernel
theorem d45 : decode yB 45 = .ok (.invokestatic 47, 3) := by decide +kernel
theorem d48 : decode yB 48 = .ok (.putfield 15, 3) := by decide +kernel
theorem d51 : decode yB 51 = .ok (.aload_n 0, 1) := by decide +kernel
theorem d52 : decode yB 52 = .ok (.aload 5, 2) := by decide +kernel
theorem d54 : decode yB 54 = .ok (.putfield 9, 3) := by decide +kernel
theorem d57 : decode yB 57 = .ok (.return_, 1) := by decide +kernel
def site : List Cond := [.fieldLink "java/lang/String" 38 "java/lang/String" "COMPACT_STRINGS" "Z", Cmp3.tab, CodL.tab, .laysFinal "java/lang/String" "java/lang/String" "value" "[B", .fieldLink "java/lang/String" 9 "java/lang/String" "value" "[B", .laysFinal "java/lang/String" "java/lang/String" "coder" "B", .fieldLink "java/lang/String" 15 "java/lang/String" "coder" "B"] ++ objW "java/lang/String" 1 ++ staticW "java/lang/String" 177 Cmp3.yN ++ staticW "java/lang/String" 47 CodL.yN
def tab : Cond := tabOf yN yB 6 none site
def P (a : Addr) (D : Cell) (fV fC : Field) (b : Addr) (A : Cell) (z : Int32) (o len : Nat) (args : Array Value) (s : State) : Prop := args = #[.ref a, .ref b, .int (Int32.ofNat o), .int (Int32.ofNat len), .null] ∧ Blank "java/lang/String" a D s ∧ Found "java/lang/String" "value" "[B" fV s ∧ Found "java/lang/String" "coder" "B" fC s ∧ Ch b A s ∧ StaticIs s "java/lang/String" "COMPACT_STRINGS" "Z" (.int z) ∧ ¬ z = 0 ∧ 0 < len ∧ o + len ≤ A.slots.size ∧ len ≤ 536870912 ∧ ∀ i, i < len → ¬ 255 < cv A (o + i)
def E (a : Addr) (D : Cell) (fV fC : Field) (A : Cell) (o len : Nat) (r : Option Value) (s u : State) : Prop := Got a D fV fC A o len r s u
/-- len > 0, no char of the range above 255: a Latin-1 String of their low bytes -/
theorem law (l : Launch) (a : Addr) (D : Cell) (fV fC : Field) (b : Addr) (A : Cell) (z : Int32) (o len : Nat) : Law l yN 5 4 2 35 yB 6 none site (P a D fV fC b A z o len) (E a D fV fC A o len) [⟨a, fC.slot⟩, ⟨a, fV.slot⟩] 1 len := by
  refine Law.of_walk (plainFor_of_name (by decide +kernel)) (by decide +kernel) (by decide +kernel) (by decide) (fun _ _ h => by rw [h.1]; rfl) (fun _ U U' hal hh h => ⟨h.1, h.2.1.mv hal hh, h.2.2.1.al hal, h.2.2.2.1.al hal, h.2.2.2.2.1.mv hal hh, h.2.2.2.2.2.1.there hal hh, h.2.2.2.2.2.2⟩) (fun r U U' V V' h1 hal h2 h => Got.mv r U U' V V' h1 hal h2 h) ?_
  intro p e s m args below meth c s₁ X0 hexec hbytes hml hret hlk hnm hown hh0 W hP
  obtain ⟨rfl, hB, f1, f2, hA, s1, hz, l0, l1, l2, hp⟩ := hP
  have a31 := hA.1.2.2.2
  have c1 : Steps p.tables e below (s₁.setTop (entryFrame m #[.ref a, .ref b, .int (Int32.ofNat o), .int (Int32.ofNat len), .null] 6)) (s₁.setTop (mkF m 0 #[.val (.ref a), .val (.ref b), .val (.int (Int32.ofNat o)), .val (.int (Int32.ofNat len)), .val .null, .unset] [])) := entry rfl
  have c2 : Steps p.tables e below (s₁.setTop (entryFrame m #[.ref a, .ref b, .int (Int32.ofNat o), .int (Int32.ofNat len), .null] 6)) (s₁.setTop (mkF m 1 #[.val (.ref a), .val (.ref b), .val (.int (Int32.ofNat o)), .val (.int (Int32.ofNat len)), .val .null, .unset] [.ref a])) := c1.trans (by
    refine XS.aloadN X0.here hexec rfl (hb hbytes d0) rfl rfl ?_
    exact Steps.refl _)
  obtain ⟨T3, X3, q3, st3⟩ := X0.oinit hexec hown (wks W (objW "java/lang/String" 1)) (g := (mkF m 1 #[.val (.ref a), .val (.ref b), .val (.int (Int32.ofNat o)), .val (.int (Int32.ofNat len)), .val .null, .unset] [.ref a])) rfl (by rw [hml]; rfl) (rest := []) rfl (hb hbytes d1) (W := 0) (by show 2 * 0 + 0 ≤ _; decide) (Nat.le_of_ble_eq_true rfl) (Nat.le_of_ble_eq_true rfl)
  have hh3 := q3.trans hh0
  have c4 : Steps p.tables e below (s₁.setTop (entryFrame m #[.ref a, .ref b, .int (Int32.ofNat o), .int (Int32.ofNat len), .null] 6)) (T3.setTop (mkF m 27 #[.val (.ref a), .val (.ref b), .val (.int (Int32.ofNat o)), .val (.int (Int32.ofNat len)), .val .null, .unset] [])) := (c2.trans (st3 _ (Steps.refl _))).trans (by
    refine XS.iloadN X3.here hexec rfl (hb hbytes d4) rfl ?_
    refine XS.ifYes X3.here hexec rfl (pc0 := 5) rfl (hb hbytes d5) rfl (i0_ne_t (nz32 (by omega) l0)) (by decide) rfl ?_
    exact Steps.refl _)
  obtain ⟨T5, X5, q5, st5⟩ := X3.sget hexec hown (wk W (.fieldLink "java/lang/String" 38 "java/lang/String" "COMPACT_STRINGS" "Z")) s1 (fun _ _ h => by rw [hh3]; exact h) (g := (mkF m 27 #[.val (.ref a), .val (.ref b), .val (.int (Int32.ofNat o)), .val (.int (Int32.ofNat len)), .val .null, .unset] [])) rfl (hb hbytes d27)
  have hh5 := q5.trans hh3
  have c6 : Steps p.tables e below (s₁.setTop (entryFrame m #[.ref a, .ref b, .int (Int32.ofNat o), .int (Int32.ofNat len), .null] 6)) (T5.setTop (mkF m 30 #[.val (.ref a), .val (.ref b), .val (.int (Int32.ofNat o)), .val (.int (Int32.ofNat len)), .val .null, .unset] [.int z])) := c4.trans (st5 _ (Steps.refl _))
  have c7 : Steps p.tables e below (s₁.setTop (entryFrame m #[.ref a, .ref b, .int (Int32.ofNat o), .int (Int32.ofNat len), .null] 6)) (T5.setTop (mkF m 36 #[.val (.ref a), .val (.ref b), .val (.int (Int32.ofNat o)), .val (.int (Int32.ofNat len)), .val .null, .unset] [.int (Int32.ofNat len), .int (Int32.ofNat o), .ref b])) := c6.trans (by
    refine XS.ifNo X5.here hexec rfl (hb hbytes d30) rfl (i0_eq_f hz) ?_
    refine XS.aloadN X5.here hexec rfl (hb hbytes d33) rfl rfl ?_
    refine XS.iloadN X5.here hexec rfl (hb hbytes d34) rfl ?_
    refine XS.iloadN X5.here hexec rfl (hb hbytes d35) rfl ?_
    exact Steps.refl _)
  obtain ⟨v8, T8, X8, E8, g8⟩ := X5.callS hexec (Cmp3.law l b A o len) hown (wks W (staticW "java/lang/String" 177 Cmp3.yN)) (wk W Cmp3.tab) (W := 0) (Nat.le_of_ble_eq_true rfl) (Nat.le_of_ble_eq_true rfl) (Nat.le_refl _) (by show 0 + len ≤ len; omega) (g := (mkF m 36 #[.val (.ref a), .val (.ref b), .val (.int (Int32.ofNat o)), .val (.int (Int32.ofNat len)), .val .null, .unset] [.int (Int32.ofNat len), .int (Int32.ofNat o), .ref b])) rfl (by rw [hml]; rfl) c7 (argsL := [.ref b, .int (Int32.ofNat o), .int (Int32.ofNat len)]) (rest := []) rfl rfl (by show 2 * 0 + 0 ≤ _; decide) (hb hbytes d36) (⟨rfl, hA.mv X5.warmed.alike hh5, l1, l2, hp⟩)
  obtain ⟨e8, z8⟩ := E8
  obtain ⟨rfl, N, n1, n2, n3, n4, n5, n6⟩ := NewArr.mv _ T5 s _ _ hh5.symm (Vm.Alike.refl _) rfl e8
  rw [hh5] at z8
  have hB1 := hB.keep X8.warmed.alike (n6 _ _ hB.1)
  have hne : s.heap.size ≠ a := (Nat.ne_of_lt (Array.getElem?_eq_some_iff.mp hB.1).1).symm
  have c9 : Steps p.tables e below (s₁.setTop (entryFrame m #[.ref a, .ref b, .int (Int32.ofNat o), .int (Int32.ofNat len), .null] 6)) (T8.setTop (mkF m 39 #[.val (.ref a), .val (.ref b), .val (.int (Int32.ofNat o)), .val (.int (Int32.ofNat len)), .val .null, .unset] [.ref s.heap.size])) := g8
  have c10 : Steps p.tables e below (s₁.setTop (entryFrame m #[.ref a, .ref b, .int (Int32.ofNat o), .int (Int32.ofNat len), .null] 6)) (T8.setTop (mkF m 45 #[.val (.ref a), .val (.ref b), .val (.int (Int32.ofNat o)), .val (.int (Int32.ofNat len)), .val .null, .val (.ref s.heap.size)] [.int (Int32.ofNat N.slots.size), .ref s.heap.size, .ref a])) := by
    have hc : Steps p.tables e below (s₁.setTop (entryFrame m #[.ref a, .ref b, .int (Int32.ofNat o), .int (Int32.ofNat len), .null] 6)) (T8.setTop (mkF m 45 #[.val (.ref a), .val (.ref b), .val (.int (Int32.ofNat o)), .val (.int (Int32.ofNat len)), .val .null, .val (.ref s.heap.size)] [.int (Int32.ofNat len), .ref s.heap.size, .ref a])) := c9.trans (by
      refine XS.astore X8.here hexec rfl (hb hbytes d39) rfl rfl rfl ?_
      refine XS.aloadN X8.here hexec rfl (hb hbytes d41) rfl rfl ?_
      refine XS.aload X8.here hexec rfl (hb hbytes d42) rfl rfl ?_
      refine XS.iloadN X8.here hexec rfl (hb hbytes d44) rfl ?_
      exact Steps.refl _)
    rw [n4]; exact hc
  obtain ⟨v11, T11, X11, E11, g11⟩ := X8.callS hexec (CodL.law l s.heap.size N) hown (wks W (staticW "java/lang/String" 47 CodL.yN)) (wk W CodL.tab) (W := 1) (Nat.le_of_ble_eq_true rfl) (Nat.le_of_ble_eq_true rfl) (Nat.le_refl _) (by show 0 + len + 0 ≤ len; omega) (g := (mkF m 45 #[.val (.ref a), .val (.ref b), .val (.int (Int32.ofNat o)), .val (.int (Int32.ofNat len)), .val .null, .val (.ref s.heap.size)] [.int (Int32.ofNat N.slots.size), .ref s.heap.size, .ref a])) rfl (by rw [hml]; rfl) c10 (argsL := [.ref s.heap.size, .int (Int32.ofNat N.slots.size)]) (rest := [.ref a]) rfl rfl (by show 2 * 0 + (1 + 0) ≤ _; decide) (hb hbytes d45) (⟨rfl, n1⟩)
  obtain ⟨rfl, q11⟩ := E11
  have hB11 := hB1.mv (X8.warmed.alike.symm.trans X11.warmed.alike) q11
  have c12 : Steps p.tables e below (s₁.setTop (entryFrame m #[.ref a, .ref b, .int (Int32.ofNat o), .int (Int32.ofNat len), .null] 6)) (T11.setTop (mkF m 48 #[.val (.ref a), .val (.ref b), .val (.int (Int32.ofNat o)), .val (.int (Int32.ofNat len)), .val .null, .val (.ref s.heap.size)] [.int 0, .ref a])) := g11
  obtain ⟨T13, X13, p13, bl13, sl13, st13⟩ := X11.finit hexec hown (wk W (.fieldLink "java/lang/String" 15 "java/lang/String" "coder" "B")) (Or.inr ⟨_, (wk W (.laysFinal "java/lang/String" "java/lang/String" "coder" "B"))⟩) (Or.inl ⟨rfl, hnm⟩) f2 (Or.inl rfl) hB11 (t := .byte) (by decide +kernel) rfl (g := (mkF m 48 #[.val (.ref a), .val (.ref b), .val (.int (Int32.ofNat o)), .val (.int (Int32.ofNat len)), .val .null, .val (.ref s.heap.size)] [.int 0, .ref a])) rfl (rest := []) rfl (hb hbytes d48)
  have c14 : Steps p.tables e below (s₁.setTop (entryFrame m #[.ref a, .ref b, .int (Int32.ofNat o), .int (Int32.ofNat len), .null] 6)) (T13.setTop (mkF m 54 #[.val (.ref a), .val (.ref b), .val (.int (Int32.ofNat o)), .val (.int (Int32.ofNat len)), .val .null, .val (.ref s.heap.size)] [.ref s.heap.size, .ref a])) := (c12.trans (st13 _ (Steps.refl _))).trans (by
    refine XS.aloadN X13.here hexec rfl (hb hbytes d51) rfl rfl ?_
    refine XS.aload X13.here hexec rfl (hb hbytes d52) rfl rfl ?_
    exact Steps.refl _)
  obtain ⟨T15, X15, p15, bl15, sl15, st15⟩ := X13.finit hexec hown (wk W (.fieldLink "java/lang/String" 9 "java/lang/String" "value" "[B")) (Or.inr ⟨_, (wk W (.laysFinal "java/lang/String" "java/lang/String" "value" "[B"))⟩) (Or.inl ⟨rfl, hnm⟩) f1 (Or.inl rfl) bl13 (t := (.array .byte)) (by decide +kernel) rfl (g := (mkF m 54 #[.val (.ref a), .val (.ref b), .val (.int (Int32.ofNat o)), .val (.int (Int32.ofNat len)), .val .null, .val (.ref s.heap.size)] [.ref s.heap.size, .ref a])) rfl (rest := []) rfl (hb hbytes d54)
  have c16 : Steps p.tables e below (s₁.setTop (entryFrame m #[.ref a, .ref b, .int (Int32.ofNat o), .int (Int32.ofNat len), .null] 6)) (T15.setTop (mkF m 57 #[.val (.ref a), .val (.ref b), .val (.int (Int32.ofNat o)), .val (.int (Int32.ofNat len)), .val .null, .val (.ref s.heap.size)] [])) := c14.trans (st15 _ (Steps.refl _))
  have ap := apart (Or.inr ⟨_, (wk W (.laysFinal "java/lang/String" "java/lang/String" "value" "[B"))⟩) (Or.inr ⟨_, (wk W (.laysFinal "java/lang/String" "java/lang/String" "coder" "B"))⟩) f1 f2 (t₁ := .array .byte) (t₂ := .byte) (by decide +kernel) (by decide +kernel) (by decide)
  have al := X8.warmed.alike.symm.trans X15.warmed.alike
  have n7 : T11.heap[s.heap.size]? = some N := by rw [q11]; exact n1.1
  exact ⟨T15, none, _, _, _, X15, by simp, rfl, by omega, (fun _ => rfl), ⟨rfl, _, N, bl15, ((Same.refl D _).set _ (by simp)).set _ (by simp), sl15, (Cell.slots_setSlot_ne _ ap).trans sl13, n1.keep al (p15.other hne (p13.other hne n7)), n2, by rw [al.findClass]; exact n3, n4, n5, fun y c h1 h2 => p15.other h1 (p13.other h1 (by rw [q11]; exact n6 y c h2)), by rw [p15.2.2, p13.2.2, q11]; exact z8⟩, fun fs hl => c16.trans (X15.returnOut hexec hret (hb hbytes d57) hl)⟩
end New4
namespace New1
def yN : MethodName := ⟨"java/lang/String", "<init>", "([C)V"⟩
abbrev yB : ByteArray := jdk_42_method_3_code
theorem d0 : decode yB 0 = .ok (.aload_n 0, 1) := by decide +kernel
theorem d1 : decode yB 1 = .ok (.aload_n 1, 1) := by decide +kernel
theorem d2 : decode yB 2 = .ok (.iconst 0, 1) := by decide +kernel
theorem d3 : decode yB 3 = .ok (.aload_n 1, 1) := by decide +kernel
theorem d4 : decode yB 4 = .ok (.arraylength, 1) := by decide +kernel
theorem d5 : decode yB 5 = .ok (.aconst_null, 1) := by decide +kernel
theorem d6 : decode yB 6 = .ok (.invokespecial 27, 3) := by decide +kernel
theorem d9 : decode yB 9 = .ok (.return_, 1) := by decide +kernel
def site : List Cond := [New4.tab] ++ initW "java/lang/String" 27 New4.yN
def tab : Cond := tabOf yN yB 2 none site
def P (a : Addr) (D : Cell) (fV fC : Field) (b : Addr) (A : Cell) (z : Int32) (args : Array Value) (s : State) : Prop := args = #[.ref a, .ref b] ∧ Blank "java/lang/String" a D s ∧ Found "java/lang/String" "value" "[B" fV s ∧ Found "java/lang/String" "coder" "B" fC s ∧ Ch b A s ∧ StaticIs s "java/lang/String" "COMPACT_STRINGS" "Z" (.int z) ∧ ¬ z = 0 ∧ 0 < A.slots.size ∧ A.slots.size ≤ 536870912 ∧ ∀ i, i < A.slots.size → ¬ 255 < cv A i
def E (a : Addr) (D : Cell) (fV fC : Field) (A : Cell) (r : Option Value) (s u : State) : Prop := Got a D fV fC A 0 A.slots.size r s u
/-- new String(chars), not empty, no char above 255: a Latin-1 String of their low bytes -/
theorem law (l : Launch) (a : Addr) (D : Cell) (fV fC : Field) (b : Addr) (A : Cell) (z : Int32) : Law l yN 2 1 3 52 yB 2 none site (P a D fV fC b A z) (E a D fV fC A) [⟨a, fC.slot⟩, ⟨a, fV.slot⟩] 1 A.slots.size := by
  refine Law.of_walk (plainFor_of_name (by decide +kernel)) (by decide +kernel) (by decide +kernel) (by decide) (fun _ _ h => by rw [h.1]; rfl) (fun _ U U' hal hh h => ⟨h.1, h.2.1.mv hal hh, h.2.2.1.al hal, h.2.2.2.1.al hal, h.2.2.2.2.1.mv hal hh, h.2.2.2.2.2.1.there hal hh, h.2.2.2.2.2.2⟩) (fun r U U' V V' h1 hal h2 h => Got.mv r U U' V V' h1 hal h2 h) ?_
  intro p e s m args below meth c s₁ X0 hexec hbytes hml hret hlk hnm hown hh0 W hP
  obtain ⟨rfl, hB, f1, f2, hA, s1, hz, l0, l2, hp⟩ := hP
  have c1 : Steps p.tables e below (s₁.setTop (entryFrame m #[.ref a, .ref b] 2)) (s₁.setTop (mkF m 0 #[.val (.ref a), .val (.ref b)] [])) := entry rfl
  have c2 : Steps p.tables e below (s₁.setTop (entryFrame m #[.ref a, .ref b] 2)) (s₁.setTop (mkF m 6 #[.val (.ref a), .val (.ref b)] [.null, .int (Int32.ofNat A.slots.size), .int 0, .ref b, .ref a])) := c1.trans (by
    refine XS.aloadN X0.here hexec rfl (hb hbytes d0) rfl rfl ?_
    refine XS.aloadN X0.here hexec rfl (hb hbytes d1) rfl rfl ?_
    refine iconstV X0.here hexec rfl 0 (hb hbytes d2) (by decide) ?_
    refine XS.aloadN X0.here hexec rfl (hb hbytes d3) rfl rfl ?_
    refine X0.alen hexec (hA.1.mv X0.warmed.alike hh0) rfl rfl (hb hbytes d4) ?_
    refine XS.aconstNull X0.here hexec rfl (hb hbytes d5) ?_
    exact Steps.refl _)
  obtain ⟨v3, T3, X3, E3, g3⟩ := X0.callN hexec (New4.law l a D fV fC b A z 0 A.slots.size) rfl hown (wks W (initW "java/lang/String" 27 New4.yN)) (W New4.tab (by simp only [site, List.mem_cons, List.mem_append, true_or, or_true])) (W := 0) (Nat.le_of_ble_eq_true rfl) (Nat.le_of_ble_eq_true rfl) (Nat.le_refl _) (by show 0 + A.slots.size ≤ A.slots.size; omega) (g := (mkF m 6 #[.val (.ref a), .val (.ref b)] [.null, .int (Int32.ofNat A.slots.size), .int (Int32.ofNat 0), .ref b, .ref a])) rfl (by rw [hml]; rfl) c2 (argsL := [.ref b, .int (Int32.ofNat 0), .int (Int32.ofNat A.slots.size), .null]) (rest := []) rfl rfl (by show 2 * 0 + 0 ≤ _; decide) (hb hbytes d6) (⟨rfl, hB.mv X0.warmed.alike hh0, f1.al X0.warmed.alike, f2.al X0.warmed.alike, hA.mv X0.warmed.alike hh0, s1.there X0.warmed.alike hh0, hz, l0, by omega, l2, fun i hi => by rw [Nat.zero_add]; exact hp i hi⟩)
  have e0 := Got.mv _ s₁ s _ _ hh0.symm (Vm.Alike.refl _) rfl E3
  obtain rfl := e0.1
  have c4 : Steps p.tables e below (s₁.setTop (entryFrame m #[.ref a, .ref b] 2)) (T3.setTop (mkF m 9 #[.val (.ref a), .val (.ref b)] [])) := g3
  exact ⟨T3, none, _, _, _, X3, by simp, rfl, by omega, (fun _ => rfl), e0, fun fs hl => c4.trans (X3.returnOut hexec hret (hb hbytes d9) hl)⟩
theorem pays {l : Launch} {R : Room} {p : Program} {e : Env} {below : List Frame} {s : State} {sargs : Array Value} {len W : Nat} (a : Addr) (D : Cell) (fV fC : Field) (b : Addr) (A : Cell) (z : Int32) (htab : tab.before sargs s = true) (hfr : 4 ≤ R.frames) (hlo : W + 65 ≤ R.locals) :
    Back l R p e below s sargs yN len W (fun A₁ a₁ => A₁.cells + 1 ≤ R.cells ∧ A₁.slots + A.slots.size ≤ R.slots ∧ P a D fV fC b A z a₁ A₁.U) (fun A₁ _ v₁ B₁ => E a D fV fC A v₁ A₁.U B₁.U ∧ B₁.locs = A₁.locs ++ [⟨a, fC.slot⟩, ⟨a, fV.slot⟩] ∧ B₁.cells = A₁.cells + 1 ∧ B₁.slots = A₁.slots + A.slots.size) :=
  (law l a D fV fC b A z).pays htab hfr (by omega)
end New1
end StrChars
namespace StrChars.Road
open Jvm Sem ClassFile Op Lib Jvm.Stand Jvm.Free Jvm.Free.XT
open Jvm.Lib.Cold (StaticIs)
abbrev ST : String := "java/lang/String"
/-- every table word that New1's law asks, flat -/
abbrev words : List Jvm.Cond := [.code New1.yN New1.yB 2 none, .initialized ST, .methodLink ST 27 New4.yN, .instanceMethod New4.yN,
  .code New4.yN New4.yB 6 none, .fieldLink ST 38 ST "COMPACT_STRINGS" "Z", .laysFinal ST ST "value" "[B", .fieldLink ST 9 ST "value" "[B", .laysFinal ST ST "coder" "B", .fieldLink ST 15 ST "coder" "B",
  .methodLink ST 1 Lib.objectInit, .instanceMethod Lib.objectInit, .code Lib.objectInit ⟨#[0xb1]⟩ 1 none, .methodLink ST 177 Cmp3.yN, .static Cmp3.yN, .methodLink ST 47 CodL.yN, .static CodL.yN,
  .code Cmp3.yN Cmp3.yB 6 (some (.array .byte)), .initialized U16, .arrayClass .byte, .methodLink U16 115 Cmp5.yN, .static Cmp5.yN, .code Cmp5.yN Cmp5.yB 7 (some .int), .code CodL.yN CodL.yB 2 (some .byte)]
theorem tab_of {a : Array Value} {s : State} (h : ∀ w ∈ words, w.before a s = true) : New1.tab.before a s = true := by
  have h5 : Cmp5.tab.before a s = true := unparts (wk h (.code Cmp5.yN Cmp5.yB 7 (some .int))) (wks h (.initialized Cmp5.yN.cls :: Cmp5.site))
  have hc : CodL.tab.before a s = true := unparts (wk h (.code CodL.yN CodL.yB 2 (some .byte))) (wks h (.initialized CodL.yN.cls :: CodL.site))
  have q5 : ∀ w ∈ Cmp5.tab :: words, w.before a s = true := fun w hw => (List.mem_cons.mp hw).elim (fun e => e ▸ h5) (h w)
  have h3 : Cmp3.tab.before a s = true := unparts (wk q5 (.code Cmp3.yN Cmp3.yB 6 (some (.array .byte)))) (wks q5 (.initialized Cmp3.yN.cls :: Cmp3.site))
  have q3 : ∀ w ∈ Cmp3.tab :: CodL.tab :: words, w.before a s = true := fun w hw => (List.mem_cons.mp hw).elim (fun e => e ▸ h3) fun hw => (List.mem_cons.mp hw).elim (fun e => e ▸ hc) (h w)
  have h4 : New4.tab.before a s = true := unparts (wk q3 (.code New4.yN New4.yB 6 none)) (wks q3 (.initialized New4.yN.cls :: New4.site))
  have q4 : ∀ w ∈ New4.tab :: words, w.before a s = true := fun w hw => (List.mem_cons.mp hw).elim (fun e => e ▸ h4) (h w)
  exact unparts (wk q4 (.code New1.yN New1.yB 2 none)) (wks q4 (.initialized New1.yN.cls :: New1.site))
/-- the words ride from the start Z to the walk's own state -/
theorem moved {Z s : State} {a0 args : Array Value} (hZ : Z.Warmed39 s.vm) (hw : ∀ d ∈ words, d.before a0 Z = true) : ∀ d ∈ words, d.before args s = true := fun d hd => by
  have q := hw d hd
  have t : ∀ d ∈ words, d = .arrayClass .byte ∨ (d.onTables && d.keepsFace) = true := by decide +kernel
  rcases t d hd with rfl | t
  · exact RoadKit.mvA hZ q
  · exact RoadKit.mv hZ q t
/-- WHAT COMES BACK, over the tables of the start Z: h the heap at the call, h' behind it -/
def Q (Z : State) (x : Addr) (A : Cell) (h : Heap) (v : Option Value) (h' : Heap) (L : List Loc) : Prop := v = none ∧ (∀ y ∈ L, y.base = x) ∧ RoadKit.Keep h h' [x] ∧ h'.size = h.size + 1 ∧ RoadKit.Exa Z h' x ST ∧ RoadKit.Fld Z h' x ST "value" "[B" (.ref h.size) ∧ RoadKit.Fld Z h' x ST "coder" "B" (.int 0) ∧
  (∃ V : Cell, RoadKit.Arr Z h' h.size V .byte ∧ V.vm = .none ∧ Z.vm.findClass "[B" = some V.cls ∧ V.slots.size = A.slots.size ∧ ∀ j, j < A.slots.size → V.slots[j]? = some (.int (lo8 (cv A j)))) ∧
  ∀ (O n d : String) (w : Value), RoadKit.Fld Z h x O n d w → RoadKit.slotOf Z O n d ≠ RoadKit.slotOf Z ST "value" "[B" → RoadKit.slotOf Z O n d ≠ RoadKit.slotOf Z ST "coder" "B" → RoadKit.Fld Z h' x O n d w
/-- **new String(chars) AT A CALL, IN THE ROAD'S FORM**: for specialBack behind newO: x the fresh String, b the char[] with the cell A -/
theorem back {p : Program} {l : Launch} {e : Env} {R : Room} {s : State} {args : Array Value} {below : List Frame} {len W : Nat} {Z : State} {a0 : Array Value} {h : Heap} (hZ : Z.Warmed39 s.vm) (hw : ∀ d ∈ words, d.before a0 Z = true) {kI : Nat} (wi : (Jvm.Cond.instantiable ST kI).before a0 Z = true)
    {x b : Addr} {A : Cell} {z : Int32} {v0 c0 : Value} (E : RoadKit.Exa Z h x ST) (V : RoadKit.Fld Z h x ST "value" "[B" v0) (C : RoadKit.Fld Z h x ST "coder" "B" c0) (K : RoadKit.Arr Z h b A .char) (hty : Typed .char A) (S : RoadKit.Sta Z h ST "COMPACT_STRINGS" "Z" (.int z)) (hz : ¬ z = 0)
    (l0 : 0 < A.slots.size) (l2 : A.slots.size ≤ 536870912) (hp : ∀ i, i < A.slots.size → ¬ 255 < cv A i) (hfr : 4 ≤ R.frames) (hlo : W + 65 ≤ R.locals) :
    Back l R p e below s args New1.yN len W (fun P a => a = #[.ref x, .ref b] ∧ P.U.heap = h ∧ P.cells + 1 ≤ R.cells ∧ P.slots + A.slots.size ≤ R.slots)
      (fun P _ v B => ∃ L, Q Z x A h v B.U.heap L ∧ B.locs = P.locs ++ L ∧ B.cells = P.cells + 1 ∧ B.slots = P.slots + A.slots.size) := by
  intro m meth c P g ig mk a X hg hsize hdg hW hn hp'
  obtain ⟨rfl, rfl, r1, r2⟩ := hp'
  have al : Z.vm.Alike P.U.vm := hZ.alike.trans X.warmed.alike
  obtain ⟨D, cfV, kV, iV, fV, hD, gV, stV, knV, obV, asV, slV⟩ := id V
  obtain ⟨D', cfC, kC, iC, fC, hD', gC, stC, -, -, asC, slC⟩ := id C
  cases hD.symm.trans hD'
  obtain ⟨D2, kD, e1, e2, e3, e4, e5⟩ := id E
  cases hD.symm.trans e1
  obtain ⟨c2, k2, i1, i2, i3, -⟩ := Cond.instantiable_spec wi
  cases e2.symm.trans i1
  cases e3.symm.trans i2
  obtain ⟨kU, u1, u2⟩ := al.2.2 _ _ e3
  have hB : Blank ST x D P.U := ⟨hD, ⟨knV, fun q hq => by rw [hq] at obV; cases obV⟩, by rw [al.findClass]; exact e2, kU, u1, by rw [u2]; exact i3, by rw [u2]; exact e5 i3⟩
  have F1 : Found ST "value" "[B" fV P.U := ⟨SBG.found_only al ⟨cfV, kV, iV, gV⟩, stV⟩
  have F2 : Found ST "coder" "B" fC P.U := ⟨SBG.found_only al ⟨cfC, kC, iC, gC⟩, stC⟩
  have hA : Ch b A P.U := ⟨⟨K.1, State.isArrayOf_alike al K.2.1, K.2.2, by omega⟩, hty⟩
  have hS : StaticIs P.U ST "COMPACT_STRINGS" "Z" (.int z) := by
    obtain ⟨cfS, iS, kS, fS, st, cS, t1, t2, t3, t4, t5, t6, t7⟩ := S
    exact StaticIs.there (s := { Z with heap := P.U.heap }) ⟨cfS, iS, kS, fS, st, cS, t1, t2, t3, t4, t5, (fun q => by rw [q] at t6; cases t6), t7⟩ al rfl
  obtain ⟨v, B, X', ⟨⟨hv, E', V', q1, q2, q3, q4, q5, q6, q7, q8, q9, q10, q11⟩, hl, hc, hs⟩, st⟩ := New1.pays x D fV fC b A z (tab_of (moved hZ hw)) hfr hlo m meth c P g ig mk _ X hg hsize hdg hW hn ⟨r1, r2, rfl, hB, F1, F2, hA, hS, hz, l0, l2, hp⟩
  have al' : Z.vm.Alike B.U.vm := hZ.alike.trans X'.warmed.alike
  have hsz : E'.slots.size = D.slots.size := by
    obtain ⟨-, -, -, kB, w1, w2, w3⟩ := q1
    obtain ⟨kB', y1, y2⟩ := al'.2.2 _ _ e3
    rw [q2.2.1] at w1
    cases w1.symm.trans y1
    rw [w3, e5 i3, y2]
  refine ⟨v, B, X', ⟨_, ⟨hv, ?_, ⟨by omega, fun y cy hy hn' => q10 y cy (by simpa using hn') hy, fun y cy hy => ?_⟩, q11, ⟨E', _, q1.1, by rw [q2.2.1]; exact e2, by rw [q2.2.1]; exact e3, by rw [q2.1]; exact obV, fun _ => by rw [hsz]; exact e5 i3⟩,
    ⟨E', cfV, kV, iV, fV, q1.1, gV, stV, by rw [q2.1]; exact knV, by rw [q2.1]; exact obV, by rw [q2.2.1]; exact asV, q3⟩, ⟨E', cfC, kC, iC, fC, q1.1, gC, stC, by rw [q2.1]; exact knV, by rw [q2.1]; exact obV, by rw [q2.2.1]; exact asC, q4⟩,
    ⟨V', ⟨q5.1, State.isArrayOf_alike al'.symm q5.2.1, q5.2.2.1⟩, q6, by rw [← al'.findClass]; exact q7, q8, fun j hj => by have := q9 j hj; rwa [Nat.zero_add] at this⟩, fun O n d w F n1 n2 => ?_⟩, hl, hc, hs⟩, st⟩
  · intro y hy
    simp only [List.mem_cons, List.not_mem_nil, or_false] at hy
    rcases hy with rfl | rfl <;> rfl
  · by_cases q : y = x
    · subst q
      cases hD.symm.trans hy
      exact ⟨E', q1.1, q2.2.1, q2.1, hsz⟩
    · exact ⟨cy, q10 y cy q hy, rfl, rfl, rfl⟩
  · obtain ⟨D3, cf, k, i, f, g1, g2, g3, g4, g5, g6, g7⟩ := F
    cases hD.symm.trans g1
    simp only [RoadKit.slotOf, g2, gV, gC, Option.map_some, Option.getD_some] at n1 n2
    exact ⟨E', cf, k, i, f, q1.1, g2, g3, by rw [q2.1]; exact g4, by rw [q2.1]; exact g5, by rw [q2.2.1]; exact g6, by rw [q2.2.2 f.slot (by simp [n1, n2])]; exact g7⟩
end StrChars.Road
namespace StrChars.Road
open Jvm Sem ClassFile Op Lib Jvm.Stand Jvm.Free Jvm.Free.XT
/-- WHAT COMES BACK, the byte[] as a list of values -/
def QA (Z : State) (x : Addr) (zn : Int32) (cs : List Int32) (h : Heap) (v : Option Value) (h' : Heap) (L : List Loc) : Prop := v = none ∧ (∀ y ∈ L, y.base = x) ∧ RoadKit.Keep h h' [x] ∧ h'.size = h.size + 1 ∧ RoadKit.Exa Z h' x ST ∧ RoadKit.Fld Z h' x ST "value" "[B" (.ref h.size) ∧ RoadKit.Fld Z h' x ST "coder" "B" (.int 0) ∧
  (∃ kb, Z.vm.findClass "[B" = some kb ∧ RoadKit.Arv Z h' h.size kb .byte zn (cs.map fun c => .int (lo8 c)) (.int 0)) ∧
  ∀ (O n d : String) (w : Value), RoadKit.Fld Z h x O n d w → RoadKit.slotOf Z O n d ≠ RoadKit.slotOf Z ST "value" "[B" → RoadKit.slotOf Z O n d ≠ RoadKit.slotOf Z ST "coder" "B" → RoadKit.Fld Z h' x O n d w
/-- **new String(chars) AT A CALL, THE ARRAYS AS LISTS**: the char[] at b holds cs, not empty, no char above 255 -/
theorem backArv {p : Program} {l : Launch} {e : Env} {R : Room} {s : State} {args : Array Value} {below : List Frame} {len W : Nat} {Z : State} {a0 : Array Value} {h : Heap} (hZ : Z.Warmed39 s.vm) (hw : ∀ d ∈ words, d.before a0 Z = true) {kI : Nat} (wi : (Jvm.Cond.instantiable ST kI).before a0 Z = true)
    {x b : Addr} {k : ClassId} {zn z : Int32} {cs : List Int32} {dv v0 c0 : Value} (E : RoadKit.Exa Z h x ST) (V : RoadKit.Fld Z h x ST "value" "[B" v0) (C : RoadKit.Fld Z h x ST "coder" "B" c0) (K : RoadKit.Arv Z h b k .char zn (cs.map Value.int) dv) (S : RoadKit.Sta Z h ST "COMPACT_STRINGS" "Z" (.int z)) (hz : ¬ z = 0)
    (hlen : zn.toNatClampNeg = cs.length) (h0 : 0 < cs.length) (hbig : cs.length ≤ 536870912) (hall : ∀ c ∈ cs, ¬ 255 < c) (hfr : 4 ≤ R.frames) (hlo : W + 65 ≤ R.locals) :
    Back l R p e below s args New1.yN len W (fun P a => a = #[.ref x, .ref b] ∧ P.U.heap = h ∧ P.cells + 1 ≤ R.cells ∧ P.slots + cs.length ≤ R.slots)
      (fun P _ v B => ∃ L, QA Z x zn cs h v B.U.heap L ∧ B.locs = P.locs ++ L ∧ B.cells = P.cells + 1 ∧ B.slots = P.slots + cs.length) := by
  obtain ⟨A, K1, K2, K3, K4, K5, K6⟩ := K
  have e : A.slots.size = cs.length := K3.trans hlen
  have hat : ∀ (i : Nat) (hi : i < cs.length), A.slots[i]? = some (.int cs[i]) := fun i hi => by rw [K5 i (by omega)]; simp [List.getD_eq_getElem?_getD, hi]
  have hcv : ∀ (i : Nat) (hi : i < cs.length), cv A i = cs[i] := fun i hi => by unfold cv; rw [hat i hi]
  have hty : Typed .char A := fun i v hv => by
    have hi : i < A.slots.size := (Array.getElem?_eq_some_iff.mp hv).1
    have q := K5 i hi
    rw [hv] at q
    rw [Option.some.inj q]
    exact K6 i hi
  refine Back.mono (back hZ hw wi E V C K1 hty S hz (by omega) (by omega) (fun i hi => by rw [hcv i (by omega)]; exact hall _ (List.getElem_mem _)) hfr hlo) (fun P a hp => ⟨hp.1, hp.2.1, hp.2.2.1, by rw [e]; exact hp.2.2.2⟩) (fun P a v B hp hq => ?_)
  obtain ⟨L, ⟨q1, q2, q3, q4, q5, q6, q7, ⟨V', v1, v2, v3, v4, v5⟩, q9⟩, hl, hc, hs⟩ := hq
  refine ⟨L, ⟨q1, q2, q3, q4, q5, q6, q7, ⟨V'.cls, v3, V', v1, rfl, by rw [v4, e, hlen], K4, fun i hi => ?_, fun i hi => ?_⟩, q9⟩, hl, hc, by rw [hs, e]⟩
  · have hi' : i < cs.length := by omega
    rw [v5 i (by omega), hcv i hi']; simp [List.getD_eq_getElem?_getD, hi']
  · have hi' : i < cs.length := by omega
    simp only [List.getD_eq_getElem?_getD, List.getElem?_map, List.getElem?_eq_getElem hi', Option.map_some, Option.getD_some]
    exact fits_lo8 _
end StrChars.Road
namespace StrChars.Road
open Jvm Sem ClassFile Op Lib Jvm.Stand Jvm.Free Jvm.Free.XT
/-- WHAT COMES BACK, in the writer's own shape -/
def QV (Z : State) (x : Addr) (N : Int32) (bs : List Int32) (h : Heap) (n0 : Nat) (v : Option Value) (h' : Heap) (L : List Loc) : Prop := v = none ∧ RoadKit.Fr n0 L ∧ RoadKit.Keep h h' [x] ∧ RoadKit.Exa Z h' x ST ∧ RoadKit.Fld Z h' x ST "coder" "B" (.int 0) ∧
  ∃ (t : Addr) (kb : ClassId), n0 ≤ t ∧ h.size ≤ t ∧ ¬ t = x ∧ RoadKit.Fld Z h' x ST "value" "[B" (.ref t) ∧ RoadKit.Arv Z h' t kb .byte N (bs.map Value.int) (.int 0)
/-- **new String(chars) AT A CALL, FOR THE WRITER**: a char[] of n known ints, each 0 to 255 -/
theorem backV {p : Program} {l : Launch} {e : Env} {R : Room} {s : State} {args : Array Value} {below : List Frame} {len W : Nat} {Z : State} {a0 : Array Value} {h : Heap} (hZ : Z.Warmed39 s.vm) (hw : ∀ d ∈ words, d.before a0 Z = true) {kI : Nat} (wi : (Jvm.Cond.instantiable ST kI).before a0 Z = true)
    {x b : Addr} {kC : ClassId} {cs bs : List Int32} {d v0 c0 : Value} {z N : Int32} {n n0 : Nat} (hx0 : n0 ≤ x) (hh0 : n0 ≤ h.size) (E : RoadKit.Exa Z h x ST) (V : RoadKit.Fld Z h x ST "value" "[B" v0) (C : RoadKit.Fld Z h x ST "coder" "B" c0) (K : RoadKit.Arv Z h b kC .char N (cs.map Value.int) d) (S : RoadKit.Sta Z h ST "COMPACT_STRINGS" "Z" (.int z)) (hz : ¬ z = 0)
    (hn : cs.length = n) (hN : N = Int32.ofNat n) (l0 : 0 < n) (l2 : n ≤ 4000) (hp : ∀ c ∈ cs, ¬ c < 0 ∧ ¬ (255 : Int32) < c) (hb : bs = cs.map (fun c => c.toInt8.toInt32)) (hfr : 4 ≤ R.frames) (hlo : W + 65 ≤ R.locals) :
    Back l R p e below s args (⟨"java/lang/String", "<init>", "([C)V"⟩ : MethodName) len W (fun P a => a = #[.ref x, .ref b] ∧ P.U.heap = h ∧ P.cells + 1 ≤ R.cells ∧ P.slots + n ≤ R.slots)
      (fun P _ v B => ∃ L, QV Z x N bs h n0 v B.U.heap L ∧ B.locs = P.locs ++ L ∧ B.cells = P.cells + 1 ∧ B.slots = P.slots + n) := by
  subst hn hN hb
  refine Back.mono (backArv hZ hw wi E V C K S hz (n32 (by omega)) l0 (by omega) (fun c hc => (hp c hc).2) hfr hlo) (fun P a hp => hp) (fun P a v B hp hq => ?_)
  obtain ⟨L, ⟨q1, q2, q3, q4, q5, q6, q7, ⟨kb, v1, v2⟩, q9⟩, hl, hc, hs⟩ := hq
  exact ⟨L, ⟨q1, fun y hy => by rw [q2 y hy]; exact hx0, q3, q5, q7, h.size, kb, hh0, Nat.le_refl _, Nat.ne_of_gt E.lt, q6, by rw [List.map_map]; exact v2⟩, hl, hc, hs⟩
end StrChars.Road
end Jvm.Pilot.@@N@@

namespace Jvm.Pilot.@@N@@
open Jvm Jvm.ClassFile Sem Op Lib Jvm.Free Jvm.Stand Jvm.LawKit Jvm.RoadKit Bundle Jvm.Pilot.@@N@@.Jvm.D
theorem own_ws {a0 : Array Value} {Z : State} (hw : ∀ d ∈ tables_1, d.before a0 Z = true) : ∀ d ∈ StrChars.Road.words, d.before a0 Z = true := fun d hd => hw d ((by decide +kernel : ∀ d ∈ StrChars.Road.words, d ∈ tables_1) d hd)
theorem own_up (cs : List Int32) (h : ∀ c ∈ cs, ¬ c < 0 ∧ ¬ (255 : Int32) < c) : ∀ c ∈ cs, ¬ c < 0 ∧ ¬ (65535 : Int32) < c := fun c hc => ⟨(h c hc).1, fun q => (h c hc).2 (by rw [Int32.lt_iff_toInt_lt] at q ⊢; have e1 : (65535 : Int32).toInt = 65535 := rfl; have e2 : (255 : Int32).toInt = 255 := rfl; omega)⟩
theorem own_and255 (x : Int32) : ∃ k : Fin 256, (x &&& (255 : Int32)) = Int32.ofNat k.val := by
  have h : (x &&& 255).toBitVec.toNat < 256 := by
    simp only [Int32.toBitVec_and, BitVec.toNat_and]
    exact Nat.lt_succ_of_le Nat.and_le_right
  refine ⟨⟨_, h⟩, ?_⟩
  apply Int32.toBitVec_inj.mp
  show _ = BitVec.ofNat 32 _
  rw [BitVec.ofNat_toNat]; simp
/-- a char of one byte -/
def own_byte (c : Int32) : Prop := ¬ c < 0 ∧ ¬ (255 : Int32) < c ∧ nar .char c = c
theorem own_byte_and (x : Int32) : own_byte ((x &&& (255 : Int32)).toUInt32.toUInt16.toUInt32.toInt32) := by
  obtain ⟨k, e⟩ := own_and255 x
  rw [e]
  exact (by decide +kernel : ∀ k : Fin 256, ¬ ((Int32.ofNat k.val).toUInt32.toUInt16.toUInt32.toInt32) < 0 ∧ ¬ (255 : Int32) < ((Int32.ofNat k.val).toUInt32.toUInt16.toUInt32.toInt32) ∧ nar .char ((Int32.ofNat k.val).toUInt32.toUInt16.toUInt32.toInt32) = ((Int32.ofNat k.val).toUInt32.toUInt16.toUInt32.toInt32)) k
theorem own_byte_nar {x : Int32} (h : own_byte x) : own_byte (nar .char x) := by rw [h.2.2]; exact h
theorem own_hp {cs : List Int32} (h : ∀ c ∈ cs, own_byte c) : ∀ c ∈ cs, ¬ c < 0 ∧ ¬ (255 : Int32) < c := fun c hc => ⟨(h c hc).1, (h c hc).2.1⟩
/-- the tables have gained no literal since Z -/
def own_Cold (Z : State) (vm : Vm) : Prop := IB Z vm []
/-- String's empty literal is the object la -/
def own_Hot (Z : State) (la : Addr) (vm : Vm) : Prop := Lit (Z.setVm vm) "java/lang/String" 7 la
theorem own_coldMv {Z s : State} {vm : Vm} (I : own_Cold Z s.vm) (h : s.WarmedH vm) : own_Cold Z vm := by
  obtain ⟨more, h1, h2⟩ := I
  exact ⟨more, by rw [h.interned_eq]; exact h1, h2⟩
theorem own_backOfJ {l : Launch} {R : Room} {p : Program} {e : Env} {below : List Frame} {s Z : State} {args a0 : Array Value} {h : Heap} {y : MethodName} {bytes : ByteArray} {maxL : Nat} {ret : Option FieldType} {rm : Room} {len W : Nat} {as' : Array Value} {Q : Option Value → Heap → List Loc → Vm → Prop} {J : Vm → Prop}
    (hM : MetFree l y (head1 [Cond.code y bytes maxL ret] rm) (fun a U => a = as' ∧ Z.Warmed39 U.vm ∧ U.heap = h ∧ J U.vm) (fun _ _ _ _ _ => True) (fun _ U o U' => ∃ v L, o = .returned v ∧ Q v U'.heap L U'.vm ∧ ReturnedEndW U o U' L rm.cells rm.slots))
    (hZ : Z.Warmed39 s.vm) (hJ : ∀ vm, s.WarmedH vm → J vm) (wc : (Cond.code y bytes maxL ret).before a0 Z = true) (wz : (Cond.initialized y.cls).before a0 Z = true) (hf : rm.frames + 1 ≤ R.frames) (hl : W + (maxL + 11) + rm.locals ≤ R.locals) :
    BackS l R p e below s args y len W (fun A a => a = as' ∧ A.U.heap = h ∧ A.cells + rm.cells ≤ R.cells ∧ A.slots + rm.slots ≤ R.slots)
      (fun A _ v B => ∃ L, Q v B.U.heap L B.U.vm ∧ B.locs = A.locs ++ L ∧ B.cells = A.cells + rm.cells ∧ B.slots = A.slots + rm.slots) :=
  BackS.of_freeW (bytes := bytes) (maxL := maxL) (ret := ret) (E := fun _ _ o t L k n => k = rm.cells ∧ n = rm.slots ∧ ∃ v, o = .returned v ∧ Q v t.heap L t.vm) hM hf hl
    (fun m meth c A a Y hp => have hU : Z.Warmed39 A.U.vm := wtrans hZ Y.warmed
      ⟨by show (Cond.and _ .tt).before a A.U = true; rw [Cond.before_and, mv hU wc]; rfl, mv hU wc, mv hU wz, hp.2.2.1, hp.2.2.2⟩)
    (fun m meth c A a g mk Y hp => ⟨hp.1, wtrans hZ Y.warmed, hp.2.1, hJ _ Y.warmed⟩) (fun _ _ _ _ _ _ _ _ _ => trivial)
    (fun _ _ _ _ ⟨v, L, h1, h2, h3⟩ => ⟨L, _, _, h3, rfl, rfl, v, h1, h2⟩)
    (fun m meth c A a g mk v t L k n Y hp _ _ ⟨e1, e2, v', e3, e4⟩ => by cases e3; subst e1 e2; exact ⟨L, e4, rfl, rfl, rfl⟩)
theorem own_sA {a0 : Array Value} {Z : State} (hw : ∀ d ∈ tables_1, d.before a0 Z = true) : ∀ d ∈ Bundle.stringAtoms, d.before a0 Z = true := fun d hd => hw d ((by decide +kernel : ∀ d ∈ Bundle.stringAtoms, d ∈ tables_1) d hd)
theorem ef_2 (m : MethodId) (z0 : Addr) (z1 : Addr) : entryFrame m #[(.ref z0), (.ref z1), (.int (0 : Int32)), (.int (0 : Int32)), .null] 6 = mkF m 0 #[.val (.ref z0), .val (.ref z1), .val (.int (0 : Int32)), .val (.int (0 : Int32)), .val .null, .unset] [] := by
  all_goals first | (simp [entryFrame, mkF, argsToLocals, Value.category]; done) | rfl
theorem pn_0 : plainName "java/lang/String" = true := by first | (simp [plainName, overriddenIn]; done) | decide +kernel
theorem d2_0 : decode jdk_42_method_149_code 0 = .ok (.aload_n 0, 1) := by decide +kernel
theorem w_11 {a0 : Array Value} {Z : State} (hw : ∀ d ∈ tables_1, d.before a0 Z = true) : (Jvm.Cond.methodLink "java/lang/String" (1 : Nat) ({ cls := "java/lang/Object", name := "<init>", desc := "()V" } : Jvm.MethodName)).before a0 Z = true := hw _ (List.mem_of_getElem? (i := 11) rfl)
theorem d2_1 : decode jdk_42_method_149_code 1 = .ok (.invokespecial 1, 3) := by decide +kernel
theorem w_12 {a0 : Array Value} {Z : State} (hw : ∀ d ∈ tables_1, d.before a0 Z = true) : (Jvm.Cond.instanceMethod ({ cls := "java/lang/Object", name := "<init>", desc := "()V" } : Jvm.MethodName)).before a0 Z = true := hw _ (List.mem_of_getElem? (i := 12) rfl)
theorem w_13 {a0 : Array Value} {Z : State} (hw : ∀ d ∈ tables_1, d.before a0 Z = true) : (Jvm.Cond.code ({ cls := "java/lang/Object", name := "<init>", desc := "()V" } : Jvm.MethodName) object_method_1_code (1 : Nat) (Option.none : Option Jvm.ClassFile.FieldType)).before a0 Z = true := hw _ (List.mem_of_getElem? (i := 13) rfl)
theorem d2_4 : decode jdk_42_method_149_code 4 = .ok (.iload_n 3, 1) := by decide +kernel
theorem d2_5 : decode jdk_42_method_149_code 5 = .ok (.ifCond .ne 22, 3) := by decide +kernel
theorem d2_8 : decode jdk_42_method_149_code 8 = .ok (.aload_n 0, 1) := by decide +kernel
theorem d2_9 : decode jdk_42_method_149_code 9 = .ok (.ldc 7, 2) := by decide +kernel
theorem w_14 {a0 : Array Value} {Z : State} (hw : ∀ d ∈ tables_1, d.before a0 Z = true) : (Jvm.Cond.stringLink "java/lang/String" (7 : Nat) "").before a0 Z = true := hw _ (List.mem_of_getElem? (i := 14) rfl)
theorem w_20 {a0 : Array Value} {Z : State} (hw : ∀ d ∈ tables_1, d.before a0 Z = true) : (Jvm.Cond.fieldLink "java/lang/String" (9 : Nat) "java/lang/String" "value" "[B").before a0 Z = true := hw _ (List.mem_of_getElem? (i := 20) rfl)
theorem d2_11 : decode jdk_42_method_149_code 11 = .ok (.getfield 9, 3) := by decide +kernel
theorem w_16 {a0 : Array Value} {Z : State} (hw : ∀ d ∈ tables_1, d.before a0 Z = true) : (Jvm.Cond.laysFinal "java/lang/String" "java/lang/String" "value" "[B").before a0 Z = true := hw _ (List.mem_of_getElem? (i := 16) rfl)
theorem w_1 {a0 : Array Value} {Z : State} (hw : ∀ d ∈ tables_1, d.before a0 Z = true) : (Jvm.Cond.instantiable "java/lang/String" (4 : Nat)).before a0 Z = true := hw _ (List.mem_of_getElem? (i := 1) rfl)
theorem d2_14 : decode jdk_42_method_149_code 14 = .ok (.putfield 9, 3) := by decide +kernel
theorem w_17 {a0 : Array Value} {Z : State} (hw : ∀ d ∈ tables_1, d.before a0 Z = true) : (Jvm.Cond.laysFinal "java/lang/String" "java/lang/String" "coder" "B").before a0 Z = true := hw _ (List.mem_of_getElem? (i := 17) rfl)
theorem sn_0 {a0 : Array Value} {Z : State} (hw : ∀ d ∈ tables_1, d.before a0 Z = true) : Jvm.RoadKit.slotOf Z "java/lang/String" "coder" "B" ≠ Jvm.RoadKit.slotOf Z "java/lang/String" "value" "[B" := slot_ne (Or.inr (w_17 hw)) (Or.inr (w_16 hw)) (by decide) (t := .byte) (t' := (.array .byte)) (by decide) (by decide)
theorem d2_17 : decode jdk_42_method_149_code 17 = .ok (.aload_n 0, 1) := by decide +kernel
theorem d2_18 : decode jdk_42_method_149_code 18 = .ok (.ldc 7, 2) := by decide +kernel
theorem w_21 {a0 : Array Value} {Z : State} (hw : ∀ d ∈ tables_1, d.before a0 Z = true) : (Jvm.Cond.fieldLink "java/lang/String" (15 : Nat) "java/lang/String" "coder" "B").before a0 Z = true := hw _ (List.mem_of_getElem? (i := 21) rfl)
theorem d2_20 : decode jdk_42_method_149_code 20 = .ok (.getfield 15, 3) := by decide +kernel
theorem d2_23 : decode jdk_42_method_149_code 23 = .ok (.putfield 15, 3) := by decide +kernel
theorem sn_1 {a0 : Array Value} {Z : State} (hw : ∀ d ∈ tables_1, d.before a0 Z = true) : Jvm.RoadKit.slotOf Z "java/lang/String" "value" "[B" ≠ Jvm.RoadKit.slotOf Z "java/lang/String" "coder" "B" := slot_ne (Or.inr (w_16 hw)) (Or.inr (w_17 hw)) (by decide) (t := (.array .byte)) (t' := .byte) (by decide) (by decide)
theorem d2_26 : decode jdk_42_method_149_code 26 = .ok (.return_, 1) := by decide +kernel
def Q2 (Z : State) (a1 : Addr) (a2 : Addr) (h0 : Heap) (n0 : Nat) (v : Option Value) (h : Heap) (L : List Loc) (ve : Vm) : Prop := ∃ la : Addr, ∃ lb : Addr, ∃ lk : ClassId, v = none ∧ Fr n0 L ∧ Keep h0 h [a1] ∧ Exa Z h a1 "java/lang/String" ∧ Fld Z h a1 "java/lang/String" "coder" "B" (.int (0 : Int32)) ∧ Fld Z h a1 "java/lang/String" "value" "[B" (.ref lb) ∧ (Arv Z h lb lk .byte (0 : Int32) [] (.int (0 : Int32))) ∧ own_Hot Z la ve
set_option maxRecDepth 65536 in
set_option maxHeartbeats 40000000 in
theorem rm2 (l : Launch) (Z : State) (a0 : Array Value) (hw : ∀ d ∈ tables_1, d.before a0 Z = true) (wsC : List Jvm.Cond) (a1 : Addr) (a2 : Addr) (h0 : Heap) (n0 : Nat) (Z0 : n0 ≤ h0.size) (E_a1 : Exa Z h0 a1 "java/lang/String") (g_a1 : n0 ≤ a1) (F_a1_value : Fld Z h0 a1 "java/lang/String" "value" "[B" .null) (F_a1_coder : Fld Z h0 a1 "java/lang/String" "coder" "B" (.int (0 : Int32))) (OLD : Old Z n0 h0) (hCH : Jvm.Lit.constHeld Z "java/lang/String" 7) (hCW : Jvm.Lit.compactW.before a0 Z = true) :
    MetFree l (⟨"java/lang/String", "<init>", "([CIILjava/lang/Void;)V"⟩ : MethodName) (head1 (Jvm.Cond.code (⟨"java/lang/String", "<init>", "([CIILjava/lang/Void;)V"⟩ : MethodName) jdk_42_method_149_code 6 none :: wsC) ({ frames := 1, cells := 2, slots := 4, locals := 12 } : Room)) (fun a U => a = #[(.ref a1), (.ref a2), (.int (0 : Int32)), (.int (0 : Int32)), .null] ∧ Z.Warmed39 U.vm ∧ U.heap = h0 ∧ own_Cold Z U.vm) (fun _ _ _ _ _ => True) (fun _ U o U' => ∃ v L, o = .returned v ∧ Q2 Z a1 a2 h0 n0 v U'.heap L U'.vm ∧ ReturnedEndW U o U' L ({ frames := 1, cells := 2, slots := 4, locals := 12 } : Room).cells ({ frames := 1, cells := 2, slots := 4, locals := 12 } : Room).slots) := by
  refine MetFree.of_bodySF (plainFor_of_name pn_0) hisR ?_
  intro p e s0 m args below meth c s₁ Bd hml0 hP hK
  obtain ⟨rfl, hZ, hh, IB0⟩ := hP
  have hx := Bd.exec
  have hby := Bd.bytes
  have hml : c.maxLocals = 6 := hml0
  obtain ⟨vmw, hvw⟩ : ∃ z, z = s0.vm := ⟨_, rfl⟩
  obtain ⟨s, hsE⟩ : ∃ z, z = s0.setVm vmw := ⟨_, rfl⟩
  have SI : s0.Since vmw 0 := by rw [hvw]; exact (State.WarmedH.refl s0).since 0
  have W0 : 0 ≤ h0.size := Nat.zero_le _
  have hss : s = s0 := by rw [hsE, hvw]; rfl
  rw [← hss] at hZ
  replace IB0 : own_Cold Z vmw := by rw [hvw]; exact IB0
  have hown : s.vm.findClass "java/lang/String" = some m.cls := by rw [hss]; exact findClass_of_methodNamed Bd.named
  have hnm := (name_of_methodNamed Bd.named Bd.method).1
  have X0 : Stand p l e ({ frames := 1, cells := 2, slots := 4, locals := 12 } : Room) s m #[(.ref a1), (.ref a2), (.int (0 : Int32)), (.int (0 : Int32)), .null] below meth c s₁ [] 0 0 := by rw [hss]; exact Stand.of_body Bd
  clear hss hvw
  skip
  have e0 : s₁.heap = h0 := by rw [← hh, Bd.state]; rfl
  have NF := Fr.nil n0
  have KP : Keep h0 h0 [a1] := Keep.refl h0 _
  refine WP.go ?_
  refine WP.cast (ef_2 m a1 a2) ?_
  refine WP.name ?_
  intro G hG
  refine WP.st (T' := s₁) (f' := (mkF m 1 #[.val (.ref a1), .val (.ref a2), .val (.int (0 : Int32)), .val (.int (0 : Int32)), .val .null, .unset] [(.ref a1)])) (fun t k => ?_) ?_
  · refine XS.aloadN X0.here hx rfl (hb hby d2_0) rfl rfl ?_
    exact k
  obtain ⟨T1, X1, e1, st1⟩ := initO X0 hx hZ hown (w_11 hw) (w_12 hw) (w_13 hw) e0 (g := (mkF m 1 #[.val (.ref a1), .val (.ref a2), .val (.int (0 : Int32)), .val (.int (0 : Int32)), .val .null, .unset] [(.ref a1)])) rfl (by rw [hml]; rfl) rfl (hb hby d2_1) (by decide) (W := 0) (by show 2 * 0 + _ ≤ _; exact Nat.le_of_eq rfl) (by decide)
  refine WP.st st1 ?_
  clear st1
  show WP p.tables e below _ T1 (mkF m 4 #[.val (.ref a1), .val (.ref a2), .val (.int (0 : Int32)), .val (.int (0 : Int32)), .val .null, .unset] [])
  refine WP.st (T' := T1) (f' := (mkF m 9 #[.val (.ref a1), .val (.ref a2), .val (.int (0 : Int32)), .val (.int (0 : Int32)), .val .null, .unset] [(.ref a1)])) (fun t k => ?_) ?_
  · refine XS.iloadN X1.here hx rfl (hb hby d2_4) rfl ?_
    show Steps p.tables e below (T1.setTop (mkF m 5 #[.val (.ref a1), .val (.ref a2), .val (.int (0 : Int32)), .val (.int (0 : Int32)), .val .null, .unset] [(.int (0 : Int32))])) t
    refine XS.ifNo X1.here hx rfl (hb hby d2_5) rfl ((if0 _ _).trans (teq (by decide : (0 : Int32) = (0 : Int32))).2) ?_
    show Steps p.tables e below (T1.setTop (mkF m 8 #[.val (.ref a1), .val (.ref a2), .val (.int (0 : Int32)), .val (.int (0 : Int32)), .val .null, .unset] [])) t
    refine XS.aloadN X1.here hx rfl (hb hby d2_8) rfl rfl ?_
    exact k
  subst hsE
  obtain ⟨la2, T2, h2, kw2, lb2, lk2, X2, e2, E2, SI2, Wn2, hZ2, hown2, E_la2, F_la2_coder, F_la2_value, V_lb2, -, -, -, LT2, st2⟩ := ldcSVL (s := s0) (vm0 := vmw) (Ts := []) X1 hx hZ hown (w_14 hw) (own_sA hw) e1 SI W0 (Fr.nil _) (fun b cl q => by rw [hh]; exact OLD.2.2 b cl q) IB0 (by simp) hCH hCW (vs := []) (z := 0) ⟨fun c hc => by simp at hc, rfl⟩ (by decide) (by decide) (g := (mkF m 9 #[.val (.ref a1), .val (.ref a2), .val (.int (0 : Int32)), .val (.int (0 : Int32)), .val .null, .unset] [(.ref a1)])) rfl (hb hby d2_9) (n := 0) (by decide) (by decide) (by decide) (by decide)
  refine WP.st st2 ?_
  clear st2
  replace E_a1 := E_a1.ext E2
  replace F_a1_value := F_a1_value.ext E2
  replace F_a1_coder := F_a1_coder.ext E2
  replace OLD := OLD.ext E2
  replace Z0 := Nat.le_trans Z0 E2.1
  replace W0 := Nat.le_trans W0 E2.1
  replace KP := KP.ext E2
  clear W0
  have W0 := Wn2
  clear Wn2
  clear hZ hown SI IB0
  obtain ⟨vmw, hvw⟩ : ∃ z, z = T2.vm := ⟨_, rfl⟩
  replace hZ2 : Z.Warmed39 vmw := by rw [hvw]; exact hZ2
  replace hown2 : vmw.findClass "java/lang/String" = some m.cls := by rw [hvw]; exact hown2
  have SI := SI2
  clear SI2
  rw [← hvw] at SI
  have LT : own_Hot Z la2 vmw := by rw [hvw]; exact LT2
  clear LT2
  obtain ⟨s, hsE⟩ : ∃ z, z = s0.setVm vmw := ⟨_, rfl⟩
  have hX : ∃ LL, Stand p l e ({ frames := 1, cells := 2, slots := 4, locals := 12 } : Room) s m #[(.ref a1), (.ref a2), (.int (0 : Int32)), (.int (0 : Int32)), .null] below meth c T2 LL 2 4 ∧ Fr n0 LL := ⟨_, (by rw [hsE, hvw]; exact X2), NF⟩
  clear X2 NF
  obtain ⟨LL2, X2, NF⟩ := hX
  clear hvw
  have hZ : Z.Warmed39 s.vm := by rw [hsE]; exact hZ2
  have hown : s.vm.findClass "java/lang/String" = some m.cls := by rw [hsE]; exact hown2
  clear hZ2 hown2
  show WP p.tables e below _ T2 (mkF m 11 #[.val (.ref a1), .val (.ref a2), .val (.int (0 : Int32)), .val (.int (0 : Int32)), .val .null, .unset] [(.ref la2), (.ref a1)])
  obtain ⟨T3, X3, e3, st3⟩ := getF X2 hx hZ hown (host := "") (Or.inl (w_20 hw)) Via.refl e2 F_la2_value (g := (mkF m 11 #[.val (.ref a1), .val (.ref a2), .val (.int (0 : Int32)), .val (.int (0 : Int32)), .val .null, .unset] [(.ref la2), (.ref a1)])) rfl rfl (hb hby d2_11)
  refine WP.st st3 ?_
  clear st3
  show WP p.tables e below _ T3 (mkF m 14 #[.val (.ref a1), .val (.ref a2), .val (.int (0 : Int32)), .val (.int (0 : Int32)), .val .null, .unset] [(.ref lb2), (.ref a1)])
  obtain ⟨T4, h4, X4, e4, W4, st4⟩ := putF X3 hx hZ hown (host := "") (Or.inl (w_20 hw)) Via.refl e3 F_a1_value E_a1 (Or.inr ⟨(w_16 hw), rfl, hnm⟩) (w_1 hw) (ty := (.array .byte)) (by decide) rfl rfl (g := (mkF m 14 #[.val (.ref a1), .val (.ref a2), .val (.int (0 : Int32)), .val (.int (0 : Int32)), .val .null, .unset] [(.ref lb2), (.ref a1)])) rfl rfl (hb hby d2_14)
  refine WP.st st4 ?_
  clear st4
  have ne_la2_a1 : la2 ≠ a1 := Fld.ne F_la2_value F_a1_value nofun
  have ne_a1_lb2 : a1 ≠ lb2 := Exa.neArv E_a1 V_lb2 (w_1 hw)
  replace E_a1 := E_a1.wr W4
  replace F_a1_value := F_a1_value.same W4
  replace F_a1_coder := F_a1_coder.other W4 (Or.inr (sn_0 hw))
  replace OLD := OLD.wr W4 g_a1
  replace E_la2 := E_la2.wr W4
  replace F_la2_coder := F_la2_coder.other W4 (Or.inl ne_la2_a1)
  replace F_la2_value := F_la2_value.other W4 (Or.inl ne_la2_a1)
  replace V_lb2 := V_lb2.other W4 (Ne.symm ne_a1_lb2)
  replace Z0 := Nat.le_trans Z0 (Keep.of_wr W4).1
  replace W0 := Nat.le_trans W0 (Keep.of_wr W4).1
  replace KP := KP.wr W4 (Or.inl (List.mem_of_getElem? (i := 0) rfl))
  replace NF := Fr.snoc X4 NF g_a1
  clear W4
  have hXN : ∃ LL, Stand p l e ({ frames := 1, cells := 2, slots := 4, locals := 12 } : Room) s m #[(.ref a1), (.ref a2), (.int (0 : Int32)), (.int (0 : Int32)), .null] below meth c T4 LL 2 4 ∧ Fr n0 LL := ⟨_, X4, NF⟩
  clear X4 NF
  obtain ⟨LL5, X4, NF⟩ := hXN
  show WP p.tables e below _ T4 (mkF m 17 #[.val (.ref a1), .val (.ref a2), .val (.int (0 : Int32)), .val (.int (0 : Int32)), .val .null, .unset] [])
  refine WP.st (T' := T4) (f' := (mkF m 18 #[.val (.ref a1), .val (.ref a2), .val (.int (0 : Int32)), .val (.int (0 : Int32)), .val .null, .unset] [(.ref a1)])) (fun t k => ?_) ?_
  · refine XS.aloadN X4.here hx rfl (hb hby d2_17) rfl rfl ?_
    exact k
  have st6 := ldcAgain (s := s0) (vm0 := vmw) (a := la2) (by have q := X4; rw [hsE] at q; exact q) hx (by have q := hZ; rw [hsE] at q; exact q) (by have q := hown; rw [hsE] at q; exact q) (w_14 hw) LT (g := (mkF m 18 #[.val (.ref a1), .val (.ref a2), .val (.int (0 : Int32)), .val (.int (0 : Int32)), .val .null, .unset] [(.ref a1)])) rfl (hb hby d2_18)
  refine WP.st st6 ?_
  clear st6
  show WP p.tables e below _ T4 (mkF m 20 #[.val (.ref a1), .val (.ref a2), .val (.int (0 : Int32)), .val (.int (0 : Int32)), .val .null, .unset] [(.ref la2), (.ref a1)])
  obtain ⟨T7, X7, e7, st7⟩ := getF X4 hx hZ hown (host := "") (Or.inl (w_21 hw)) Via.refl e4 F_la2_coder (g := (mkF m 20 #[.val (.ref a1), .val (.ref a2), .val (.int (0 : Int32)), .val (.int (0 : Int32)), .val .null, .unset] [(.ref la2), (.ref a1)])) rfl rfl (hb hby d2_20)
  refine WP.st st7 ?_
  clear st7
  show WP p.tables e below _ T7 (mkF m 23 #[.val (.ref a1), .val (.ref a2), .val (.int (0 : Int32)), .val (.int (0 : Int32)), .val .null, .unset] [(.int (0 : Int32)), (.ref a1)])
  obtain ⟨T8, h8, X8, e8, W8, st8⟩ := putFN X7 hx hZ hown (w_21 hw) Via.refl e7 F_a1_coder E_a1 (Or.inr ⟨(w_17 hw), rfl, hnm⟩) (w_1 hw) (ty := .byte) (v := (.int (0 : Int32))) (v' := (.int (0 : Int32))) (by decide) rfl (by decide) (g := (mkF m 23 #[.val (.ref a1), .val (.ref a2), .val (.int (0 : Int32)), .val (.int (0 : Int32)), .val .null, .unset] [(.int (0 : Int32)), (.ref a1)])) rfl rfl (hb hby d2_23)
  refine WP.st st8 ?_
  clear st8
  replace E_a1 := E_a1.wr W8
  replace F_a1_value := F_a1_value.other W8 (Or.inr (sn_1 hw))
  replace F_a1_coder := F_a1_coder.same W8
  replace OLD := OLD.wr W8 g_a1
  replace E_la2 := E_la2.wr W8
  replace F_la2_coder := F_la2_coder.other W8 (Or.inl ne_la2_a1)
  replace F_la2_value := F_la2_value.other W8 (Or.inl ne_la2_a1)
  replace V_lb2 := V_lb2.other W8 (Ne.symm ne_a1_lb2)
  replace Z0 := Nat.le_trans Z0 (Keep.of_wr W8).1
  replace W0 := Nat.le_trans W0 (Keep.of_wr W8).1
  replace KP := KP.wr W8 (Or.inl (List.mem_of_getElem? (i := 0) rfl))
  replace NF := Fr.snoc X8 NF g_a1
  clear W8
  have hXN : ∃ LL, Stand p l e ({ frames := 1, cells := 2, slots := 4, locals := 12 } : Room) s m #[(.ref a1), (.ref a2), (.int (0 : Int32)), (.int (0 : Int32)), .null] below meth c T8 LL 2 4 ∧ Fr n0 LL := ⟨_, X8, NF⟩
  clear X8 NF
  obtain ⟨LL9, X8, NF⟩ := hXN
  show WP p.tables e below _ T8 (mkF m 26 #[.val (.ref a1), .val (.ref a2), .val (.int (0 : Int32)), .val (.int (0 : Int32)), .val .null, .unset] [])
  subst hG
  subst hsE
  obtain ⟨fs, hr, hrun, hended, hEW⟩ := X8.leaveW SI (Nat.le_trans W0 (Nat.le_of_eq (by rw [e8]))) (v := none) (fun _ => rfl)
  refine WP.fin ⟨_, _, ?_, hrun, hended, _, _, rfl, ?_, hEW.1, hEW.2.1, hEW.2.2.1, hEW.2.2.2.mono (by decide) (by decide)⟩
  · exact X8.returnOut hx Bd.returns (hb hby d2_26) hr
  · show Q2 Z a1 a2 h0 n0 _ T8.heap _ T8.vm
    rw [e8]
    exact ⟨la2, lb2, lk2, rfl, NF, KP, E_a1, F_a1_coder, F_a1_value, V_lb2, (Lit.stays (s := s0) LT X8.warmed.wide)⟩
theorem ef_1 (m : MethodId) (z0 : Addr) (z1 : Addr) : entryFrame m #[(.ref z0), (.ref z1)] 2 = mkF m 0 #[.val (.ref z0), .val (.ref z1)] [] := by
  all_goals first | (simp [entryFrame, mkF, argsToLocals, Value.category]; done) | rfl
theorem d1_0 : decode jdk_42_method_3_code 0 = .ok (.aload_n 0, 1) := by decide +kernel
theorem d1_1 : decode jdk_42_method_3_code 1 = .ok (.aload_n 1, 1) := by decide +kernel
theorem d1_2 : decode jdk_42_method_3_code 2 = .ok (.iconst 0, 1) := by decide +kernel
theorem d1_3 : decode jdk_42_method_3_code 3 = .ok (.aload_n 1, 1) := by decide +kernel
theorem d1_4 : decode jdk_42_method_3_code 4 = .ok (.arraylength, 1) := by decide +kernel
theorem d1_5 : decode jdk_42_method_3_code 5 = .ok (.aconst_null, 1) := by decide +kernel
theorem w_7 {a0 : Array Value} {Z : State} (hw : ∀ d ∈ tables_1, d.before a0 Z = true) : (Jvm.Cond.methodLink "java/lang/String" (27 : Nat) ({ cls := "java/lang/String", name := "<init>", desc := "([CIILjava/lang/Void;)V" } : Jvm.MethodName)).before a0 Z = true := hw _ (List.mem_of_getElem? (i := 7) rfl)
theorem d1_6 : decode jdk_42_method_3_code 6 = .ok (.invokespecial 27, 3) := by decide +kernel
theorem w_10 {a0 : Array Value} {Z : State} (hw : ∀ d ∈ tables_1, d.before a0 Z = true) : (Jvm.Cond.code ({ cls := "java/lang/String", name := "<init>", desc := "([CIILjava/lang/Void;)V" } : Jvm.MethodName) jdk_42_method_149_code (6 : Nat) (Option.none : Option Jvm.ClassFile.FieldType)).before a0 Z = true := hw _ (List.mem_of_getElem? (i := 10) rfl)
theorem w_2 {a0 : Array Value} {Z : State} (hw : ∀ d ∈ tables_1, d.before a0 Z = true) : (Jvm.Cond.initialized "java/lang/String").before a0 Z = true := hw _ (List.mem_of_getElem? (i := 2) rfl)
theorem pd_0 : parseMethodDescriptor "([CIILjava/lang/Void;)V" = some ⟨[(.array .char), .int, .int, (.object "java/lang/Void")], none⟩ := by decide +kernel
theorem w_8 {a0 : Array Value} {Z : State} (hw : ∀ d ∈ tables_1, d.before a0 Z = true) : (Jvm.Cond.instanceMethod ({ cls := "java/lang/String", name := "<init>", desc := "([CIILjava/lang/Void;)V" } : Jvm.MethodName)).before a0 Z = true := hw _ (List.mem_of_getElem? (i := 8) rfl)
theorem d1_9 : decode jdk_42_method_3_code 9 = .ok (.return_, 1) := by decide +kernel
def Q1 (Z : State) (a1 : Addr) (a2 : Addr) (ka : ClassId) (vs : List Value) (h0 : Heap) (n0 : Nat) (v : Option Value) (h : Heap) (L : List Loc) (ve : Vm) : Prop := ∃ la : Addr, ∃ lb : Addr, ∃ lk : ClassId, v = none ∧ Fr n0 L ∧ Keep h0 h [a1] ∧ Exa Z h a1 "java/lang/String" ∧ Fld Z h a1 "java/lang/String" "coder" "B" (.int (0 : Int32)) ∧ Fld Z h a1 "java/lang/String" "value" "[B" (.ref lb) ∧ (Arv Z h lb lk .byte (0 : Int32) [] (.int (0 : Int32))) ∧ own_Hot Z la ve
set_option maxRecDepth 65536 in
set_option maxHeartbeats 40000000 in
theorem rm1 (l : Launch) (Z : State) (a0 : Array Value) (hw : ∀ d ∈ tables_1, d.before a0 Z = true) (wsC : List Jvm.Cond) (a1 : Addr) (a2 : Addr) (ka : ClassId) (vs : List Value) (h0 : Heap) (n0 : Nat) (Z0 : n0 ≤ h0.size) (E_a1 : Exa Z h0 a1 "java/lang/String") (g_a1 : n0 ≤ a1) (F_a1_value : Fld Z h0 a1 "java/lang/String" "value" "[B" .null) (F_a1_coder : Fld Z h0 a1 "java/lang/String" "coder" "B" (.int (0 : Int32))) (V_a2 : Arv Z h0 a2 ka .char (0 : Int32) vs (.int (0 : Int32))) (OLD : Old Z n0 h0) (hCH : Jvm.Lit.constHeld Z "java/lang/String" 7) (hCW : Jvm.Lit.compactW.before a0 Z = true) :
    MetFree l (⟨"java/lang/String", "<init>", "([C)V"⟩ : MethodName) (head1 (Jvm.Cond.code (⟨"java/lang/String", "<init>", "([C)V"⟩ : MethodName) jdk_42_method_3_code 2 none :: wsC) ({ frames := 2, cells := 2, slots := 4, locals := 29 } : Room)) (fun a U => a = #[(.ref a1), (.ref a2)] ∧ Z.Warmed39 U.vm ∧ U.heap = h0 ∧ own_Cold Z U.vm) (fun _ _ _ _ _ => True) (fun _ U o U' => ∃ v L, o = .returned v ∧ Q1 Z a1 a2 ka vs h0 n0 v U'.heap L U'.vm ∧ ReturnedEndW U o U' L ({ frames := 2, cells := 2, slots := 4, locals := 29 } : Room).cells ({ frames := 2, cells := 2, slots := 4, locals := 29 } : Room).slots) := by
  refine MetFree.of_bodySF (plainFor_of_name pn_0) hisR ?_
  intro p e s0 m args below meth c s₁ Bd hml0 hP hK
  obtain ⟨rfl, hZ, hh, IB0⟩ := hP
  have hx := Bd.exec
  have hby := Bd.bytes
  have hml : c.maxLocals = 2 := hml0
  obtain ⟨vmw, hvw⟩ : ∃ z, z = s0.vm := ⟨_, rfl⟩
  obtain ⟨s, hsE⟩ : ∃ z, z = s0.setVm vmw := ⟨_, rfl⟩
  have SI : s0.Since vmw 0 := by rw [hvw]; exact (State.WarmedH.refl s0).since 0
  have W0 : 0 ≤ h0.size := Nat.zero_le _
  have hss : s = s0 := by rw [hsE, hvw]; rfl
  rw [← hss] at hZ
  replace IB0 : own_Cold Z vmw := by rw [hvw]; exact IB0
  have hown : s.vm.findClass "java/lang/String" = some m.cls := by rw [hss]; exact findClass_of_methodNamed Bd.named
  have hnm := (name_of_methodNamed Bd.named Bd.method).1
  have X0 : Stand p l e ({ frames := 2, cells := 2, slots := 4, locals := 29 } : Room) s m #[(.ref a1), (.ref a2)] below meth c s₁ [] 0 0 := by rw [hss]; exact Stand.of_body Bd
  clear hss hvw
  skip
  have e0 : s₁.heap = h0 := by rw [← hh, Bd.state]; rfl
  have NF := Fr.nil n0
  have KP : Keep h0 h0 [a1] := Keep.refl h0 _
  refine WP.go ?_
  refine WP.cast (ef_1 m a1 a2) ?_
  refine WP.name ?_
  intro G hG
  refine WP.st (T' := s₁) (f' := (mkF m 4 #[.val (.ref a1), .val (.ref a2)] [(.ref a2), (.int (0 : Int32)), (.ref a2), (.ref a1)])) (fun t k => ?_) ?_
  · refine XS.aloadN X0.here hx rfl (hb hby d1_0) rfl rfl ?_
    show Steps p.tables e below (s₁.setTop (mkF m 1 #[.val (.ref a1), .val (.ref a2)] [(.ref a1)])) t
    refine XS.aloadN X0.here hx rfl (hb hby d1_1) rfl rfl ?_
    show Steps p.tables e below (s₁.setTop (mkF m 2 #[.val (.ref a1), .val (.ref a2)] [(.ref a2), (.ref a1)])) t
    refine XS.iconst X0.here hx rfl (hb hby d1_2) ?_
    show Steps p.tables e below (s₁.setTop (mkF m 3 #[.val (.ref a1), .val (.ref a2)] [(.int (0 : Int32)), (.ref a2), (.ref a1)])) t
    refine XS.aloadN X0.here hx rfl (hb hby d1_3) rfl rfl ?_
    exact k
  obtain ⟨cl10, Ar10, len10⟩ := V_a2.len
  refine WP.st (T' := s₁) (f' := (mkF m 6 #[.val (.ref a1), .val (.ref a2)] [.null, (.int (0 : Int32)), (.int (0 : Int32)), (.ref a2), (.ref a1)])) (fun t k => ?_) ?_
  · refine X0.arraylength hx (by rw [e0]; exact Ar10.1) (State.isArrayOf_alike hZ.alike Ar10.2.1) (g := (mkF m 4 #[.val (.ref a1), .val (.ref a2)] [(.ref a2), (.int (0 : Int32)), (.ref a2), (.ref a1)])) rfl rfl (hb hby d1_4) _ ?_
    rw [len10]
    show Steps p.tables e below (s₁.setTop (mkF m 5 #[.val (.ref a1), .val (.ref a2)] [(.int (0 : Int32)), (.int (0 : Int32)), (.ref a2), (.ref a1)])) t
    refine XS.aconstNull X0.here hx rfl (hb hby d1_5) ?_
    exact k
  subst hsE
  obtain ⟨_, _, ⟨T11, L11, k11, n11⟩, -, X11, SJ11, gr11, ⟨Lc11, hQ11, l11, y11, z11⟩, st11⟩ := X0.specialBackS hx (y := (⟨"java/lang/String", "<init>", "([CIILjava/lang/Void;)V"⟩ : MethodName)) rfl hown (mvT hZ (w_7 hw)) (mvT hZ (w_8 hw)) (mvT hZ (w_10 hw)) (by decide) (own_backOfJ (J := own_Cold Z) (W := 0) (rm2 l Z a0 hw [] a1 a2 h0 n0 Z0 E_a1 g_a1 F_a1_value F_a1_coder OLD (hCH : Jvm.Lit.constHeld Z "java/lang/String" 7) (hCW : Jvm.Lit.compactW.before a0 Z = true)) hZ (fun _ q => own_coldMv IB0 q) (w_10 hw) (w_2 hw) (by decide) (by decide)) (g := (mkF m 6 #[.val (.ref a1), .val (.ref a2)] [.null, (.int (0 : Int32)), (.int (0 : Int32)), (.ref a2), (.ref a1)])) rfl (by rw [hml]; rfl) (Steps.refl _) (a := a1) (argsL := [(.ref a2), (.int (0 : Int32)), (.int (0 : Int32)), .null]) (rest := []) (lenOf pd_0 rfl) rfl (by show 2 * 0 + _ ≤ _; exact Nat.le_of_eq rfl) (hb hby d1_6) (fun _ _ => ⟨rfl, e0, (by decide : 0 + 2 ≤ _), (by decide : 0 + 4 ≤ _)⟩)
  dsimp only [Pt.U, Pt.locs, Pt.cells, Pt.slots] at X11 l11 y11 z11 st11 hQ11 SJ11 gr11
  subst l11 y11 z11
  have SI11 := foldS SI (T := s₁) (Nat.le_trans W0 (Nat.le_of_eq (by rw [e0]))) SJ11 gr11
  have hZ11 := State.Warmed39.trans (t := s0.setVm vmw) hZ SJ11.1
  have hown11 : T11.vm.findClass "java/lang/String" = some m.cls := by rw [SJ11.1.alike.findClass]; exact hown
  obtain ⟨la_11, lb_11, lk_11, rfl, Nq11, Kq11, nE11_a1, nF11_a1_coder, nF11_a1_value, nA11_lb_11, LT11⟩ := hQ11
  replace NF := Fr.app NF Nq11
  clear Nq11
  refine WP.tr st11 ?_
  clear st11
  obtain ⟨h11, e11⟩ : ∃ h, T11.heap = h := ⟨_, rfl⟩
  rw [e11] at Kq11 nE11_a1 nF11_a1_coder nF11_a1_value nA11_lb_11
  have ne_a1_a2 : a1 ≠ a2 := Exa.neArv E_a1 V_a2 (w_1 hw)
  replace E_a1 := E_a1.keep Kq11
  clear F_a1_value
  clear F_a1_coder
  replace V_a2 := V_a2.keep Kq11 (by exact ninS (Ne.symm ne_a1_a2) (nin0))
  replace OLD := OLD.keep Kq11 (allS g_a1 all0)
  replace Z0 := Nat.le_trans Z0 Kq11.1
  replace W0 := Nat.le_trans W0 Kq11.1
  replace KP := KP.trans Kq11 (allS (Or.inl (List.mem_of_getElem? (i := 0) rfl)) all0)
  clear Kq11
  clear E_a1
  have E_a1 := nE11_a1
  clear nE11_a1
  have F_a1_coder := nF11_a1_coder
  clear nF11_a1_coder
  have F_a1_value := nF11_a1_value
  clear nF11_a1_value
  have V_lb_11 := nA11_lb_11
  clear nA11_lb_11
  clear W0
  have W0 : T11.heap.size ≤ h11.size := Nat.le_of_eq (by rw [e11])
  clear hZ hown SI IB0
  obtain ⟨vmw, hvw⟩ : ∃ z, z = T11.vm := ⟨_, rfl⟩
  replace hZ11 : Z.Warmed39 vmw := by rw [hvw]; exact hZ11
  replace hown11 : vmw.findClass "java/lang/String" = some m.cls := by rw [hvw]; exact hown11
  have SI := SI11
  clear SI11
  rw [← hvw] at SI
  have LT : own_Hot Z la_11 vmw := by rw [hvw]; exact LT11
  clear LT11
  obtain ⟨s, hsE⟩ : ∃ z, z = s0.setVm vmw := ⟨_, rfl⟩
  have hX : ∃ LL, Stand p l e ({ frames := 2, cells := 2, slots := 4, locals := 29 } : Room) s m #[(.ref a1), (.ref a2)] below meth c T11 LL 2 4 ∧ Fr n0 LL := ⟨_, (by rw [hsE, hvw]; exact X11), NF⟩
  clear X11 NF
  obtain ⟨LL11, X11, NF⟩ := hX
  clear hvw
  have hZ : Z.Warmed39 s.vm := by rw [hsE]; exact hZ11
  have hown : s.vm.findClass "java/lang/String" = some m.cls := by rw [hsE]; exact hown11
  clear hZ11 hown11
  have hXN : ∃ LL, Stand p l e ({ frames := 2, cells := 2, slots := 4, locals := 29 } : Room) s m #[(.ref a1), (.ref a2)] below meth c T11 LL 2 4 ∧ Fr n0 LL := ⟨_, X11, NF⟩
  clear X11 NF
  obtain ⟨LL12, X11, NF⟩ := hXN
  show WP p.tables e below _ T11 (mkF m 9 #[.val (.ref a1), .val (.ref a2)] [])
  subst hG
  subst hsE
  obtain ⟨fs, hr, hrun, hended, hEW⟩ := X11.leaveW SI (Nat.le_trans W0 (Nat.le_of_eq (by rw [e11]))) (v := none) (fun _ => rfl)
  refine WP.fin ⟨_, _, ?_, hrun, hended, _, _, rfl, ?_, hEW.1, hEW.2.1, hEW.2.2.1, hEW.2.2.2.mono (by decide) (by decide)⟩
  · exact X11.returnOut hx Bd.returns (hb hby d1_9) hr
  · show Q1 Z a1 a2 ka vs h0 n0 _ T11.heap _ T11.vm
    rw [e11]
    exact ⟨la_11, lb_11, lk_11, rfl, NF, KP, E_a1, F_a1_coder, F_a1_value, V_lb_11, (Lit.stays (s := s0) LT X11.warmed.wide)⟩
theorem ef_5 (m : MethodId) (z0 : Addr) : entryFrame m #[(.ref z0)] 1 = mkF m 0 #[.val (.ref z0)] [] := by
  all_goals first | (simp [entryFrame, mkF, argsToLocals, Value.category]; done) | rfl
theorem pn_1 : plainName "java/lang/Record" = true := by first | (simp [plainName, overriddenIn]; done) | decide +kernel
theorem d5_0 : decode jdk_30_method_1_code 0 = .ok (.aload_n 0, 1) := by decide +kernel
theorem w_33 {a0 : Array Value} {Z : State} (hw : ∀ d ∈ tables_1, d.before a0 Z = true) : (Jvm.Cond.methodLink "java/lang/Record" (1 : Nat) ({ cls := "java/lang/Object", name := "<init>", desc := "()V" } : Jvm.MethodName)).before a0 Z = true := hw _ (List.mem_of_getElem? (i := 33) rfl)
theorem d5_1 : decode jdk_30_method_1_code 1 = .ok (.invokespecial 1, 3) := by decide +kernel
theorem d5_4 : decode jdk_30_method_1_code 4 = .ok (.return_, 1) := by decide +kernel
def Q5 (Z : State) (a1 : Addr) (h0 : Heap) (n0 : Nat) (v : Option Value) (h : Heap) (L : List Loc) : Prop := v = none ∧ Fr n0 L ∧ h = h0
set_option maxRecDepth 65536 in
set_option maxHeartbeats 40000000 in
theorem rm5 (l : Launch) (Z : State) (a0 : Array Value) (hw : ∀ d ∈ tables_1, d.before a0 Z = true) (wsC : List Jvm.Cond) (a1 : Addr) (h0 : Heap) (n0 : Nat) (Z0 : n0 ≤ h0.size)  :
    MetFree l (⟨"java/lang/Record", "<init>", "()V"⟩ : MethodName) (head1 (Jvm.Cond.code (⟨"java/lang/Record", "<init>", "()V"⟩ : MethodName) jdk_30_method_1_code 1 none :: wsC) ({ frames := 1, cells := 0, slots := 0, locals := 12 } : Room)) (fun a U => a = #[(.ref a1)] ∧ Z.Warmed39 U.vm ∧ U.heap = h0) (fun _ _ _ _ _ => True) (fun _ U o U' => ∃ v L, o = .returned v ∧ Q5 Z a1 h0 n0 v U'.heap L ∧ FrameEnd U o U' L ({ frames := 1, cells := 0, slots := 0, locals := 12 } : Room).cells ({ frames := 1, cells := 0, slots := 0, locals := 12 } : Room).slots) := by
  refine MetFree.of_bodySF (plainFor_of_name pn_1) hisR ?_
  intro p e s m args below meth c s₁ Bd hml0 hP hK
  obtain ⟨rfl, hZ, hh⟩ := hP
  have hx := Bd.exec
  have hby := Bd.bytes
  have hml : c.maxLocals = 1 := hml0
  have hown : s.vm.findClass "java/lang/Record" = some m.cls := findClass_of_methodNamed Bd.named
  have hnm := (name_of_methodNamed Bd.named Bd.method).1
  have X0 : Stand p l e ({ frames := 1, cells := 0, slots := 0, locals := 12 } : Room) s m #[(.ref a1)] below meth c s₁ [] 0 0 := Stand.of_body Bd
  skip
  have e0 : s₁.heap = h0 := by rw [← hh, Bd.state]; rfl
  have NF := Fr.nil n0
  refine WP.go ?_
  refine WP.cast (ef_5 m a1) ?_
  refine WP.name ?_
  intro G hG
  refine WP.st (T' := s₁) (f' := (mkF m 1 #[.val (.ref a1)] [(.ref a1)])) (fun t k => ?_) ?_
  · refine XS.aloadN X0.here hx rfl (hb hby d5_0) rfl rfl ?_
    exact k
  obtain ⟨T13, X13, e13, st13⟩ := initO X0 hx hZ hown (w_33 hw) (w_12 hw) (w_13 hw) e0 (g := (mkF m 1 #[.val (.ref a1)] [(.ref a1)])) rfl (by rw [hml]; rfl) rfl (hb hby d5_1) (by decide) (W := 0) (by show 2 * 0 + _ ≤ _; exact Nat.le_of_eq rfl) (by decide)
  refine WP.st st13 ?_
  clear st13
  show WP p.tables e below _ T13 (mkF m 4 #[.val (.ref a1)] [])
  subst hG
  obtain ⟨fs, hr, hrun, hended, hW, hsame⟩ := X13.leave (v := none) (fun _ => rfl)
  refine WP.fin ⟨_, _, ?_, hrun, hended, _, _, rfl, ?_, ⟨_, rfl⟩, hW, hsame.mono (by decide) (by decide)⟩
  · exact X13.returnOut hx Bd.returns (hb hby d5_4) hr
  · show Q5 Z a1 h0 n0 _ T13.heap _
    rw [e13]
    exact ⟨rfl, NF, rfl⟩
theorem ef_4 (m : MethodId) (z0 : Addr) (z1 : Int32) (z2 : Value) (hr2 : z2.isRef = true) : entryFrame m #[(.ref z0), (.int z1), z2] 3 = mkF m 0 #[.val (.ref z0), .val (.int z1), .val z2] [] := by
  all_goals (rcases ref_cases hr2 with rfl | ⟨z, rfl⟩)
  all_goals first | (simp [entryFrame, mkF, argsToLocals, Value.category]; done) | rfl
theorem pn_2 : plainName "com/example/deodar/deodar/protocol/Outcome" = true := by first | (simp [plainName, overriddenIn]; done) | decide +kernel
theorem d4_0 : decode prog_57_method_1_code 0 = .ok (.aload_n 0, 1) := by decide +kernel
theorem w_28 {a0 : Array Value} {Z : State} (hw : ∀ d ∈ tables_1, d.before a0 Z = true) : (Jvm.Cond.methodLink "com/example/deodar/deodar/protocol/Outcome" (3 : Nat) ({ cls := "java/lang/Record", name := "<init>", desc := "()V" } : Jvm.MethodName)).before a0 Z = true := hw _ (List.mem_of_getElem? (i := 28) rfl)
theorem d4_1 : decode prog_57_method_1_code 1 = .ok (.invokespecial 3, 3) := by decide +kernel
theorem w_32 {a0 : Array Value} {Z : State} (hw : ∀ d ∈ tables_1, d.before a0 Z = true) : (Jvm.Cond.code ({ cls := "java/lang/Record", name := "<init>", desc := "()V" } : Jvm.MethodName) jdk_30_method_1_code (1 : Nat) (Option.none : Option Jvm.ClassFile.FieldType)).before a0 Z = true := hw _ (List.mem_of_getElem? (i := 32) rfl)
theorem w_31 {a0 : Array Value} {Z : State} (hw : ∀ d ∈ tables_1, d.before a0 Z = true) : (Jvm.Cond.initialized "java/lang/Record").before a0 Z = true := hw _ (List.mem_of_getElem? (i := 31) rfl)
theorem pd_1 : parseMethodDescriptor "()V" = some ⟨[], none⟩ := by decide +kernel
theorem w_29 {a0 : Array Value} {Z : State} (hw : ∀ d ∈ tables_1, d.before a0 Z = true) : (Jvm.Cond.instanceMethod ({ cls := "java/lang/Record", name := "<init>", desc := "()V" } : Jvm.MethodName)).before a0 Z = true := hw _ (List.mem_of_getElem? (i := 29) rfl)
theorem d4_4 : decode prog_57_method_1_code 4 = .ok (.aload_n 0, 1) := by decide +kernel
theorem d4_5 : decode prog_57_method_1_code 5 = .ok (.iload_n 1, 1) := by decide +kernel
theorem w_34 {a0 : Array Value} {Z : State} (hw : ∀ d ∈ tables_1, d.before a0 Z = true) : (Jvm.Cond.fieldLink "com/example/deodar/deodar/protocol/Outcome" (9 : Nat) "com/example/deodar/deodar/protocol/Outcome" "status" "I").before a0 Z = true := hw _ (List.mem_of_getElem? (i := 34) rfl)
theorem w_35 {a0 : Array Value} {Z : State} (hw : ∀ d ∈ tables_1, d.before a0 Z = true) : (Jvm.Cond.laysFinal "com/example/deodar/deodar/protocol/Outcome" "com/example/deodar/deodar/protocol/Outcome" "status" "I").before a0 Z = true := hw _ (List.mem_of_getElem? (i := 35) rfl)
theorem w_23 {a0 : Array Value} {Z : State} (hw : ∀ d ∈ tables_1, d.before a0 Z = true) : (Jvm.Cond.instantiable "com/example/deodar/deodar/protocol/Outcome" (2 : Nat)).before a0 Z = true := hw _ (List.mem_of_getElem? (i := 23) rfl)
theorem d4_6 : decode prog_57_method_1_code 6 = .ok (.putfield 9, 3) := by decide +kernel
theorem w_37 {a0 : Array Value} {Z : State} (hw : ∀ d ∈ tables_1, d.before a0 Z = true) : (Jvm.Cond.laysFinal "com/example/deodar/deodar/protocol/Outcome" "com/example/deodar/deodar/protocol/Outcome" "text" "Ljava/lang/String;").before a0 Z = true := hw _ (List.mem_of_getElem? (i := 37) rfl)
theorem sn_2 {a0 : Array Value} {Z : State} (hw : ∀ d ∈ tables_1, d.before a0 Z = true) : Jvm.RoadKit.slotOf Z "com/example/deodar/deodar/protocol/Outcome" "text" "Ljava/lang/String;" ≠ Jvm.RoadKit.slotOf Z "com/example/deodar/deodar/protocol/Outcome" "status" "I" := slot_ne (Or.inr (w_37 hw)) (Or.inr (w_35 hw)) (by decide) (t := (.object "java/lang/String")) (t' := .int) (by decide) (by decide)
theorem d4_9 : decode prog_57_method_1_code 9 = .ok (.aload_n 0, 1) := by decide +kernel
theorem d4_10 : decode prog_57_method_1_code 10 = .ok (.aload_n 2, 1) := by decide +kernel
theorem w_36 {a0 : Array Value} {Z : State} (hw : ∀ d ∈ tables_1, d.before a0 Z = true) : (Jvm.Cond.fieldLink "com/example/deodar/deodar/protocol/Outcome" (15 : Nat) "com/example/deodar/deodar/protocol/Outcome" "text" "Ljava/lang/String;").before a0 Z = true := hw _ (List.mem_of_getElem? (i := 36) rfl)
theorem d4_11 : decode prog_57_method_1_code 11 = .ok (.putfield 15, 3) := by decide +kernel
theorem sn_3 {a0 : Array Value} {Z : State} (hw : ∀ d ∈ tables_1, d.before a0 Z = true) : Jvm.RoadKit.slotOf Z "com/example/deodar/deodar/protocol/Outcome" "status" "I" ≠ Jvm.RoadKit.slotOf Z "com/example/deodar/deodar/protocol/Outcome" "text" "Ljava/lang/String;" := slot_ne (Or.inr (w_35 hw)) (Or.inr (w_37 hw)) (by decide) (t := .int) (t' := (.object "java/lang/String")) (by decide) (by decide)
theorem d4_14 : decode prog_57_method_1_code 14 = .ok (.return_, 1) := by decide +kernel
def Q4 (Z : State) (a1 : Addr) (p1 : Int32) (v1 : Value) (u_status : Int32) (u_text : Value) (h0 : Heap) (n0 : Nat) (v : Option Value) (h : Heap) (L : List Loc) : Prop := v = none ∧ Fr n0 L ∧ Keep h0 h [a1] ∧ Fld Z h a1 "com/example/deodar/deodar/protocol/Outcome" "status" "I" (.int p1) ∧ Fld Z h a1 "com/example/deodar/deodar/protocol/Outcome" "text" "Ljava/lang/String;" v1
set_option maxRecDepth 65536 in
set_option maxHeartbeats 40000000 in
theorem rm4 (l : Launch) (Z : State) (a0 : Array Value) (hw : ∀ d ∈ tables_1, d.before a0 Z = true) (wsC : List Jvm.Cond) (a1 : Addr) (p1 : Int32) (v1 : Value) (u_status : Int32) (u_text : Value) (h0 : Heap) (n0 : Nat) (Z0 : n0 ≤ h0.size) (E_a1 : Exa Z h0 a1 "com/example/deodar/deodar/protocol/Outcome") (g_a1 : n0 ≤ a1) (F_a1_status : Fld Z h0 a1 "com/example/deodar/deodar/protocol/Outcome" "status" "I" (.int u_status)) (F_a1_text : Fld Z h0 a1 "com/example/deodar/deodar/protocol/Outcome" "text" "Ljava/lang/String;" u_text) (hr_v1 : v1.isRef = true) :
    MetFree l (⟨"com/example/deodar/deodar/protocol/Outcome", "<init>", "(ILjava/lang/String;)V"⟩ : MethodName) (head1 (Jvm.Cond.code (⟨"com/example/deodar/deodar/protocol/Outcome", "<init>", "(ILjava/lang/String;)V"⟩ : MethodName) prog_57_method_1_code 3 none :: wsC) ({ frames := 2, cells := 0, slots := 0, locals := 24 } : Room)) (fun a U => a = #[(.ref a1), (.int p1), v1] ∧ Z.Warmed39 U.vm ∧ U.heap = h0) (fun _ _ _ _ _ => True) (fun _ U o U' => ∃ v L, o = .returned v ∧ Q4 Z a1 p1 v1 u_status u_text h0 n0 v U'.heap L ∧ FrameEnd U o U' L ({ frames := 2, cells := 0, slots := 0, locals := 24 } : Room).cells ({ frames := 2, cells := 0, slots := 0, locals := 24 } : Room).slots) := by
  refine MetFree.of_bodySF (plainFor_of_name pn_2) hisR ?_
  intro p e s m args below meth c s₁ Bd hml0 hP hK
  obtain ⟨rfl, hZ, hh⟩ := hP
  have hx := Bd.exec
  have hby := Bd.bytes
  have hml : c.maxLocals = 3 := hml0
  have hown : s.vm.findClass "com/example/deodar/deodar/protocol/Outcome" = some m.cls := findClass_of_methodNamed Bd.named
  have hnm := (name_of_methodNamed Bd.named Bd.method).1
  have X0 : Stand p l e ({ frames := 2, cells := 0, slots := 0, locals := 24 } : Room) s m #[(.ref a1), (.int p1), v1] below meth c s₁ [] 0 0 := Stand.of_body Bd
  skip
  have e0 : s₁.heap = h0 := by rw [← hh, Bd.state]; rfl
  have NF := Fr.nil n0
  have KP : Keep h0 h0 [a1] := Keep.refl h0 _
  refine WP.go ?_
  refine WP.cast (ef_4 m a1 p1 v1 hr_v1) ?_
  refine WP.name ?_
  intro G hG
  refine WP.st (T' := s₁) (f' := (mkF m 1 #[.val (.ref a1), .val (.int p1), .val v1] [(.ref a1)])) (fun t k => ?_) ?_
  · refine XS.aloadN X0.here hx rfl (hb hby d4_0) rfl rfl ?_
    exact k
  obtain ⟨_, _, ⟨T14, L14, k14, n14⟩, -, X14, ⟨Lc14, hQ14, l14, y14, z14⟩, st14⟩ := X0.specialBack hx (y := (⟨"java/lang/Record", "<init>", "()V"⟩ : MethodName)) rfl hown (mvT hZ (w_28 hw)) (mvT hZ (w_29 hw)) (mvT hZ (w_32 hw)) (by decide) (backOf (W := 0) (rm5 l Z a0 hw [] a1 h0 n0 Z0 ) hZ (w_32 hw) (w_31 hw) (by decide) (by decide)) (g := (mkF m 1 #[.val (.ref a1), .val (.int p1), .val v1] [(.ref a1)])) rfl (by rw [hml]; rfl) (Steps.refl _) (a := a1) (argsL := []) (rest := []) (lenOf pd_1 rfl) rfl (by show 2 * 0 + _ ≤ _; exact Nat.le_of_eq rfl) (hb hby d4_1) (fun _ _ => ⟨rfl, e0, (by decide : 0 + 0 ≤ _), (by decide : 0 + 0 ≤ _)⟩)
  dsimp only [Pt.U, Pt.locs, Pt.cells, Pt.slots] at X14 l14 y14 z14 st14 hQ14
  subst l14 y14 z14
  obtain ⟨rfl, Nq14, Kq14⟩ := hQ14
  replace NF := Fr.app NF Nq14
  clear Nq14
  refine WP.tr st14 ?_
  clear st14
  replace Kq14 := Kq14.trans (rfl : h0 = h0)
  have hXN : ∃ LL, Stand p l e ({ frames := 2, cells := 0, slots := 0, locals := 24 } : Room) s m #[(.ref a1), (.int p1), v1] below meth c T14 LL 0 0 ∧ Fr n0 LL := ⟨_, X14, NF⟩
  clear X14 NF
  obtain ⟨LL15, X14, NF⟩ := hXN
  show WP p.tables e below _ T14 (mkF m 4 #[.val (.ref a1), .val (.int p1), .val v1] [])
  refine WP.st (T' := T14) (f' := (mkF m 6 #[.val (.ref a1), .val (.int p1), .val v1] [(.int p1), (.ref a1)])) (fun t k => ?_) ?_
  · refine XS.aloadN X14.here hx rfl (hb hby d4_4) rfl rfl ?_
    show Steps p.tables e below (T14.setTop (mkF m 5 #[.val (.ref a1), .val (.int p1), .val v1] [(.ref a1)])) t
    refine XS.iloadN X14.here hx rfl (hb hby d4_5) rfl ?_
    exact k
  obtain ⟨T16, h16, X16, e16, W16, st16⟩ := putF X14 hx hZ hown (host := "") (Or.inl (w_34 hw)) Via.refl Kq14 F_a1_status E_a1 (Or.inr ⟨(w_35 hw), rfl, hnm⟩) (w_23 hw) (ty := .int) (by decide) rfl rfl (g := (mkF m 6 #[.val (.ref a1), .val (.int p1), .val v1] [(.int p1), (.ref a1)])) rfl rfl (hb hby d4_6)
  refine WP.st st16 ?_
  clear st16
  replace E_a1 := E_a1.wr W16
  replace F_a1_status := F_a1_status.same W16
  replace F_a1_text := F_a1_text.other W16 (Or.inr (sn_2 hw))
  replace Z0 := Nat.le_trans Z0 (Keep.of_wr W16).1
  replace KP := KP.wr W16 (Or.inl (List.mem_of_getElem? (i := 0) rfl))
  replace NF := Fr.snoc X16 NF g_a1
  clear W16
  have hXN : ∃ LL, Stand p l e ({ frames := 2, cells := 0, slots := 0, locals := 24 } : Room) s m #[(.ref a1), (.int p1), v1] below meth c T16 LL 0 0 ∧ Fr n0 LL := ⟨_, X16, NF⟩
  clear X16 NF
  obtain ⟨LL17, X16, NF⟩ := hXN
  show WP p.tables e below _ T16 (mkF m 9 #[.val (.ref a1), .val (.int p1), .val v1] [])
  refine WP.st (T' := T16) (f' := (mkF m 11 #[.val (.ref a1), .val (.int p1), .val v1] [v1, (.ref a1)])) (fun t k => ?_) ?_
  · refine XS.aloadN X16.here hx rfl (hb hby d4_9) rfl rfl ?_
    show Steps p.tables e below (T16.setTop (mkF m 10 #[.val (.ref a1), .val (.int p1), .val v1] [(.ref a1)])) t
    refine XS.aloadN X16.here hx rfl (hb hby d4_10) rfl hr_v1 ?_
    exact k
  obtain ⟨T18, h18, X18, e18, W18, st18⟩ := putF X16 hx hZ hown (host := "") (Or.inl (w_36 hw)) Via.refl e16 F_a1_text E_a1 (Or.inr ⟨(w_37 hw), rfl, hnm⟩) (w_23 hw) (ty := (.object "java/lang/String")) (by decide) rfl (by rcases ref_cases hr_v1 with h | ⟨z, h⟩ <;> rw [h] <;> rfl) (g := (mkF m 11 #[.val (.ref a1), .val (.int p1), .val v1] [v1, (.ref a1)])) rfl rfl (hb hby d4_11)
  refine WP.st st18 ?_
  clear st18
  replace E_a1 := E_a1.wr W18
  replace F_a1_status := F_a1_status.other W18 (Or.inr (sn_3 hw))
  replace F_a1_text := F_a1_text.same W18
  replace Z0 := Nat.le_trans Z0 (Keep.of_wr W18).1
  replace KP := KP.wr W18 (Or.inl (List.mem_of_getElem? (i := 0) rfl))
  replace NF := Fr.snoc X18 NF g_a1
  clear W18
  have hXN : ∃ LL, Stand p l e ({ frames := 2, cells := 0, slots := 0, locals := 24 } : Room) s m #[(.ref a1), (.int p1), v1] below meth c T18 LL 0 0 ∧ Fr n0 LL := ⟨_, X18, NF⟩
  clear X18 NF
  obtain ⟨LL19, X18, NF⟩ := hXN
  show WP p.tables e below _ T18 (mkF m 14 #[.val (.ref a1), .val (.int p1), .val v1] [])
  subst hG
  obtain ⟨fs, hr, hrun, hended, hW, hsame⟩ := X18.leave (v := none) (fun _ => rfl)
  refine WP.fin ⟨_, _, ?_, hrun, hended, _, _, rfl, ?_, ⟨_, rfl⟩, hW, hsame.mono (by decide) (by decide)⟩
  · exact X18.returnOut hx Bd.returns (hb hby d4_14) hr
  · show Q4 Z a1 p1 v1 u_status u_text h0 n0 _ T18.heap _
    rw [e18]
    exact ⟨rfl, NF, KP, F_a1_status, F_a1_text⟩
theorem ef_6 (m : MethodId) (z0 : Addr) : entryFrame m #[(.ref z0)] 1 = mkF m 0 #[.val (.ref z0)] [] := by
  all_goals first | (simp [entryFrame, mkF, argsToLocals, Value.category]; done) | rfl
theorem d6_0 : decode prog_57_method_3_code 0 = .ok (.aload_n 0, 1) := by decide +kernel
theorem d6_1 : decode prog_57_method_3_code 1 = .ok (.getfield 9, 3) := by decide +kernel
theorem d6_4 : decode prog_57_method_3_code 4 = .ok (.sipush 200, 3) := by decide +kernel
theorem d6_7 : decode prog_57_method_3_code 7 = .ok (.if_icmp .ne 7, 3) := by decide +kernel
theorem d6_10 : decode prog_57_method_3_code 10 = .ok (.iconst 1, 1) := by decide +kernel
theorem d6_11 : decode prog_57_method_3_code 11 = .ok (.goto 4, 3) := by decide +kernel
theorem d6_15 : decode prog_57_method_3_code 15 = .ok (.ireturn, 1) := by decide +kernel
theorem d6_14 : decode prog_57_method_3_code 14 = .ok (.iconst 0, 1) := by decide +kernel
def Q6 (Z : State) (a1 : Addr) (p1 : Int32) (h0 : Heap) (n0 : Nat) (v : Option Value) (h : Heap) (L : List Loc) : Prop := v = some (.int (if p1 = (200 : Int32) then (1 : Int32) else (0 : Int32))) ∧ Fr n0 L ∧ h = h0
set_option maxRecDepth 65536 in
set_option maxHeartbeats 40000000 in
theorem rm6 (l : Launch) (Z : State) (a0 : Array Value) (hw : ∀ d ∈ tables_1, d.before a0 Z = true) (wsC : List Jvm.Cond) (a1 : Addr) (p1 : Int32) (h0 : Heap) (n0 : Nat) (Z0 : n0 ≤ h0.size) (F_a1_status : Fld Z h0 a1 "com/example/deodar/deodar/protocol/Outcome" "status" "I" (.int p1)) :
    MetFree l (⟨"com/example/deodar/deodar/protocol/Outcome", "isDone", "()Z"⟩ : MethodName) (head1 (Jvm.Cond.code (⟨"com/example/deodar/deodar/protocol/Outcome", "isDone", "()Z"⟩ : MethodName) prog_57_method_3_code 1 (some .boolean) :: wsC) ({ frames := 0, cells := 0, slots := 0, locals := 0 } : Room)) (fun a U => a = #[(.ref a1)] ∧ Z.Warmed39 U.vm ∧ U.heap = h0) (fun _ _ _ _ _ => True) (fun _ U o U' => ∃ v L, o = .returned v ∧ Q6 Z a1 p1 h0 n0 v U'.heap L ∧ FrameEnd U o U' L ({ frames := 0, cells := 0, slots := 0, locals := 0 } : Room).cells ({ frames := 0, cells := 0, slots := 0, locals := 0 } : Room).slots) := by
  refine MetFree.of_bodySF (plainFor_of_name pn_2) hisR ?_
  intro p e s m args below meth c s₁ Bd hml0 hP hK
  obtain ⟨rfl, hZ, hh⟩ := hP
  have hx := Bd.exec
  have hby := Bd.bytes
  have hml : c.maxLocals = 1 := hml0
  have hown : s.vm.findClass "com/example/deodar/deodar/protocol/Outcome" = some m.cls := findClass_of_methodNamed Bd.named
  have hnm := (name_of_methodNamed Bd.named Bd.method).1
  have X0 : Stand p l e ({ frames := 0, cells := 0, slots := 0, locals := 0 } : Room) s m #[(.ref a1)] below meth c s₁ [] 0 0 := Stand.of_body Bd
  skip
  have e0 : s₁.heap = h0 := by rw [← hh, Bd.state]; rfl
  have NF := Fr.nil n0
  refine WP.go ?_
  refine WP.cast (ef_6 m a1) ?_
  refine WP.name ?_
  intro G hG
  refine WP.st (T' := s₁) (f' := (mkF m 1 #[.val (.ref a1)] [(.ref a1)])) (fun t k => ?_) ?_
  · refine XS.aloadN X0.here hx rfl (hb hby d6_0) rfl rfl ?_
    exact k
  obtain ⟨T20, X20, e20, st20⟩ := getF X0 hx hZ hown (host := "") (Or.inl (w_34 hw)) Via.refl e0 F_a1_status (g := (mkF m 1 #[.val (.ref a1)] [(.ref a1)])) rfl rfl (hb hby d6_1)
  refine WP.st st20 ?_
  clear st20
  show WP p.tables e below _ T20 (mkF m 4 #[.val (.ref a1)] [(.int p1)])
  refine WP.st (T' := T20) (f' := (mkF m 7 #[.val (.ref a1)] [(.int (200 : Int32)), (.int p1)])) (fun t k => ?_) ?_
  · refine XS.sipush X20.here hx rfl (hb hby d6_4) ?_
    exact k
  by_cases hc21 : p1 = (200 : Int32)
  · skip
    refine WP.st (T' := T20) (f' := (mkF m 15 #[.val (.ref a1)] [(.int (1 : Int32))])) (fun t k => ?_) ?_
    · refine XS.icmpNo X20.here hx rfl (hb hby d6_7) rfl (teq hc21).2 ?_
      show Steps p.tables e below (T20.setTop (mkF m 10 #[.val (.ref a1)] [])) t
      refine XS.iconst X20.here hx rfl (hb hby d6_10) ?_
      show Steps p.tables e below (T20.setTop (mkF m 11 #[.val (.ref a1)] [(.int (1 : Int32))])) t
      refine XS.goto X20.here hx rfl (pc0 := 11) (pc' := 15) rfl (hb hby d6_11) (by decide) (by decide) ?_
      exact k
    subst hG
    obtain ⟨fs, hr, hrun, hended, hW, hsame⟩ := X20.leave (v := some (.int (1 : Int32))) (fun h => by rw [Bd.returns] at h; cases h)
    refine WP.fin ⟨_, _, ?_, hrun, hended, _, _, rfl, ?_, ⟨_, rfl⟩, hW, hsame.mono (by decide) (by decide)⟩
    · exact retN X20 hx (t := .boolean) Bd.returns (by simp) (hb hby d6_15) hr
    · show Q6 Z a1 p1 h0 n0 _ T20.heap _
      rw [e20]
      exact ⟨(by first | rw [if_pos (by assumption)] | rw [if_neg (by assumption)]), NF, rfl⟩
  · skip
    refine WP.st (T' := T20) (f' := (mkF m 15 #[.val (.ref a1)] [(.int (0 : Int32))])) (fun t k => ?_) ?_
    · refine XS.icmpYes X20.here hx rfl (pc0 := 7) (pc' := 14) rfl (hb hby d6_7) rfl (feq hc21).2 (by decide) (by decide) ?_
      show Steps p.tables e below (T20.setTop (mkF m 14 #[.val (.ref a1)] [])) t
      refine XS.iconst X20.here hx rfl (hb hby d6_14) ?_
      exact k
    subst hG
    obtain ⟨fs, hr, hrun, hended, hW, hsame⟩ := X20.leave (v := some (.int (0 : Int32))) (fun h => by rw [Bd.returns] at h; cases h)
    refine WP.fin ⟨_, _, ?_, hrun, hended, _, _, rfl, ?_, ⟨_, rfl⟩, hW, hsame.mono (by decide) (by decide)⟩
    · exact retN X20 hx (t := .boolean) Bd.returns (by simp) (hb hby d6_15) hr
    · show Q6 Z a1 p1 h0 n0 _ T20.heap _
      rw [e20]
      exact ⟨(by first | rw [if_pos (by assumption)] | rw [if_neg (by assumption)]), NF, rfl⟩
theorem ef_7 (m : MethodId) (z0 : Value) (hr0 : z0.isRef = true) : entryFrame m #[z0] 1 = mkF m 0 #[.val z0] [] := by
  all_goals (rcases ref_cases hr0 with rfl | ⟨z, rfl⟩)
  all_goals first | (simp [entryFrame, mkF, argsToLocals, Value.category]; done) | rfl
theorem w_46 {a0 : Array Value} {Z : State} (hw : ∀ d ∈ tables_1, d.before a0 Z = true) : (Jvm.Cond.classLink "com/example/deodar/deodar/protocol/Outcome" (10 : Nat) "com/example/deodar/deodar/protocol/Outcome").before a0 Z = true := hw _ (List.mem_of_getElem? (i := 46) rfl)
theorem w_24 {a0 : Array Value} {Z : State} (hw : ∀ d ∈ tables_1, d.before a0 Z = true) : (Jvm.Cond.initialized "com/example/deodar/deodar/protocol/Outcome").before a0 Z = true := hw _ (List.mem_of_getElem? (i := 24) rfl)
theorem d7_0 : decode prog_57_method_2_code 0 = .ok (.new 10, 3) := by decide +kernel
theorem d7_3 : decode prog_57_method_2_code 3 = .ok (.dup, 1) := by decide +kernel
theorem d7_4 : decode prog_57_method_2_code 4 = .ok (.sipush 200, 3) := by decide +kernel
theorem d7_7 : decode prog_57_method_2_code 7 = .ok (.aload_n 0, 1) := by decide +kernel
theorem w_47 {a0 : Array Value} {Z : State} (hw : ∀ d ∈ tables_1, d.before a0 Z = true) : (Jvm.Cond.methodLink "com/example/deodar/deodar/protocol/Outcome" (19 : Nat) ({ cls := "com/example/deodar/deodar/protocol/Outcome", name := "<init>", desc := "(ILjava/lang/String;)V" } : Jvm.MethodName)).before a0 Z = true := hw _ (List.mem_of_getElem? (i := 47) rfl)
theorem d7_8 : decode prog_57_method_2_code 8 = .ok (.invokespecial 19, 3) := by decide +kernel
theorem w_27 {a0 : Array Value} {Z : State} (hw : ∀ d ∈ tables_1, d.before a0 Z = true) : (Jvm.Cond.code ({ cls := "com/example/deodar/deodar/protocol/Outcome", name := "<init>", desc := "(ILjava/lang/String;)V" } : Jvm.MethodName) prog_57_method_1_code (3 : Nat) (Option.none : Option Jvm.ClassFile.FieldType)).before a0 Z = true := hw _ (List.mem_of_getElem? (i := 27) rfl)
theorem pd_2 : parseMethodDescriptor "(ILjava/lang/String;)V" = some ⟨[.int, (.object "java/lang/String")], none⟩ := by decide +kernel
theorem w_26 {a0 : Array Value} {Z : State} (hw : ∀ d ∈ tables_1, d.before a0 Z = true) : (Jvm.Cond.instanceMethod ({ cls := "com/example/deodar/deodar/protocol/Outcome", name := "<init>", desc := "(ILjava/lang/String;)V" } : Jvm.MethodName)).before a0 Z = true := hw _ (List.mem_of_getElem? (i := 26) rfl)
theorem d7_11 : decode prog_57_method_2_code 11 = .ok (.areturn, 1) := by decide +kernel
def Q7 (Z : State) (v1 : Value) (h0 : Heap) (n0 : Nat) (v : Option Value) (h : Heap) (L : List Loc) : Prop := ∃ r : Addr, v = some (.ref r) ∧ Fr n0 L ∧ Keep h0 h [] ∧ h0.size ≤ r ∧ Exa Z h r "com/example/deodar/deodar/protocol/Outcome" ∧ Fld Z h r "com/example/deodar/deodar/protocol/Outcome" "status" "I" (.int (200 : Int32))
set_option maxRecDepth 65536 in
set_option maxHeartbeats 40000000 in
theorem rm7 (l : Launch) (Z : State) (a0 : Array Value) (hw : ∀ d ∈ tables_1, d.before a0 Z = true) (wsC : List Jvm.Cond) (v1 : Value) (h0 : Heap) (n0 : Nat) (Z0 : n0 ≤ h0.size) (OLD : Old Z n0 h0) (hr_v1 : v1.isRef = true) :
    MetFree l (⟨"com/example/deodar/deodar/protocol/Outcome", "done", "(Ljava/lang/String;)Lcom/example/deodar/deodar/protocol/Outcome;"⟩ : MethodName) (head1 (Jvm.Cond.code (⟨"com/example/deodar/deodar/protocol/Outcome", "done", "(Ljava/lang/String;)Lcom/example/deodar/deodar/protocol/Outcome;"⟩ : MethodName) prog_57_method_2_code 1 (some (.object "com/example/deodar/deodar/protocol/Outcome")) :: wsC) ({ frames := 3, cells := 1, slots := 2, locals := 39 } : Room)) (fun a U => a = #[v1] ∧ Z.Warmed39 U.vm ∧ U.heap = h0) (fun _ _ _ _ _ => True) (fun _ U o U' => ∃ v L, o = .returned v ∧ Q7 Z v1 h0 n0 v U'.heap L ∧ FrameEnd U o U' L ({ frames := 3, cells := 1, slots := 2, locals := 39 } : Room).cells ({ frames := 3, cells := 1, slots := 2, locals := 39 } : Room).slots) := by
  refine MetFree.of_bodySF (plainFor_of_name pn_2) hisR ?_
  intro p e s m args below meth c s₁ Bd hml0 hP hK
  obtain ⟨rfl, hZ, hh⟩ := hP
  have hx := Bd.exec
  have hby := Bd.bytes
  have hml : c.maxLocals = 1 := hml0
  have hown : s.vm.findClass "com/example/deodar/deodar/protocol/Outcome" = some m.cls := findClass_of_methodNamed Bd.named
  have hnm := (name_of_methodNamed Bd.named Bd.method).1
  have X0 : Stand p l e ({ frames := 3, cells := 1, slots := 2, locals := 39 } : Room) s m #[v1] below meth c s₁ [] 0 0 := Stand.of_body Bd
  skip
  have e0 : s₁.heap = h0 := by rw [← hh, Bd.state]; rfl
  have NF := Fr.nil n0
  have KP : Keep h0 h0 [] := Keep.refl h0 _
  refine WP.go ?_
  refine WP.cast (ef_7 m v1 hr_v1) ?_
  refine WP.name ?_
  intro G hG
  obtain ⟨T22, h22, X22, e22, E22, A22, D22, -, st22⟩ := newO X0 hx hZ hown (w_46 hw) (w_23 hw) (w_24 hw) e0 (g := (mkF m 0 #[.val v1] [])) rfl (hb hby d7_0) (by decide) (by decide)
  obtain ⟨b22, g22⟩ : ∃ z, z = h0.size := ⟨_, rfl⟩
  rw [← g22] at A22 D22 st22
  refine WP.st st22 ?_
  clear st22
  have g_b22 : n0 ≤ b22 := Nat.le_trans Z0 (Nat.le_of_eq g22.symm)
  have sz_b22 : h0.size ≤ b22 := Nat.le_trans KP.1 (Nat.le_of_eq g22.symm)
  replace OLD := OLD.ext E22
  replace Z0 := Nat.le_trans Z0 E22.1
  replace KP := KP.ext E22
  have E_b22 := A22
  have F_b22_status : Fld Z h22 b22 "com/example/deodar/deodar/protocol/Outcome" "status" "I" (.int (0 : Int32)) := D22 (Or.inr (w_35 hw)) (ty := .int) (by decide)
  have F_b22_text : Fld Z h22 b22 "com/example/deodar/deodar/protocol/Outcome" "text" "Ljava/lang/String;" .null := D22 (Or.inr (w_37 hw)) (ty := (.object "java/lang/String")) (by decide)
  clear D22 A22
  show WP p.tables e below _ T22 (mkF m 3 #[.val v1] [(.ref b22)])
  refine WP.st (T' := T22) (f' := (mkF m 8 #[.val v1] [v1, (.int (200 : Int32)), (.ref b22), (.ref b22)])) (fun t k => ?_) ?_
  · refine XS.dup X22.here hx rfl (hb hby d7_3) rfl rfl ?_
    show Steps p.tables e below (T22.setTop (mkF m 4 #[.val v1] [(.ref b22), (.ref b22)])) t
    refine XS.sipush X22.here hx rfl (hb hby d7_4) ?_
    show Steps p.tables e below (T22.setTop (mkF m 7 #[.val v1] [(.int (200 : Int32)), (.ref b22), (.ref b22)])) t
    refine XS.aloadN X22.here hx rfl (hb hby d7_7) rfl hr_v1 ?_
    exact k
  obtain ⟨_, _, ⟨T23, L23, k23, n23⟩, -, X23, ⟨Lc23, hQ23, l23, y23, z23⟩, st23⟩ := X22.specialBack hx (y := (⟨"com/example/deodar/deodar/protocol/Outcome", "<init>", "(ILjava/lang/String;)V"⟩ : MethodName)) rfl hown (mvT hZ (w_47 hw)) (mvT hZ (w_26 hw)) (mvT hZ (w_27 hw)) (by decide) (backOf (W := 1) (rm4 l Z a0 hw [] b22 (200 : Int32) v1 (0 : Int32) Value.null h22 n0 Z0 E_b22 g_b22 F_b22_status F_b22_text (by first | rfl | assumption | decide | omega : v1.isRef = true)) hZ (w_27 hw) (w_24 hw) (by decide) (by decide)) (g := (mkF m 8 #[.val v1] [v1, (.int (200 : Int32)), (.ref b22), (.ref b22)])) rfl (by rw [hml]; rfl) (Steps.refl _) (a := b22) (argsL := [(.int (200 : Int32)), v1]) (rest := [(.ref b22)]) (lenOf pd_2 rfl) rfl (by show 2 * 0 + _ ≤ _; exact Nat.le_of_eq rfl) (hb hby d7_8) (fun _ _ => ⟨rfl, e22, (by decide : 1 + 0 ≤ _), (by decide : 2 + 0 ≤ _)⟩)
  dsimp only [Pt.U, Pt.locs, Pt.cells, Pt.slots] at X23 l23 y23 z23 st23 hQ23
  subst l23 y23 z23
  obtain ⟨rfl, Nq23, Kq23, nF23_b22_status, nF23_b22_text⟩ := hQ23
  replace NF := Fr.app NF Nq23
  clear Nq23
  refine WP.tr st23 ?_
  clear st23
  obtain ⟨h23, e23⟩ : ∃ h, T23.heap = h := ⟨_, rfl⟩
  rw [e23] at Kq23 nF23_b22_status nF23_b22_text
  replace OLD := OLD.keep Kq23 (allS g_b22 all0)
  replace E_b22 := E_b22.keep Kq23
  clear F_b22_status
  clear F_b22_text
  replace Z0 := Nat.le_trans Z0 Kq23.1
  replace KP := KP.trans Kq23 (allS (Or.inr sz_b22) all0)
  clear Kq23
  have F_b22_status := nF23_b22_status
  clear nF23_b22_status
  have F_b22_text := nF23_b22_text
  clear nF23_b22_text
  have hXN : ∃ LL, Stand p l e ({ frames := 3, cells := 1, slots := 2, locals := 39 } : Room) s m #[v1] below meth c T23 LL 1 2 ∧ Fr n0 LL := ⟨_, X23, NF⟩
  clear X23 NF
  obtain ⟨LL24, X23, NF⟩ := hXN
  show WP p.tables e below _ T23 (mkF m 11 #[.val v1] [(.ref b22)])
  subst hG
  obtain ⟨fs, hr, hrun, hended, hW, hsame⟩ := X23.leave (v := some (.ref b22)) (fun h => by rw [Bd.returns] at h; cases h)
  refine WP.fin ⟨_, _, ?_, hrun, hended, _, _, rfl, ?_, ⟨_, rfl⟩, hW, hsame.mono (by decide) (by decide)⟩
  · exact retOut X23 hx Bd.returns rfl (Or.inr (Or.inr (Or.inr (Or.inr ⟨rfl, rfl, rfl⟩)))) (hb hby d7_11) hr
  · show Q7 Z v1 h0 n0 _ T23.heap _
    rw [e23]
    exact ⟨b22, rfl, NF, KP, sz_b22, E_b22, F_b22_status⟩
theorem ef_0 (m : MethodId) (z0 : Int32) (z1 : Int32) (z2 : Int32) (z3 : Int32) : entryFrame m #[(.int z0), (.int z1), (.int z2), (.int z3)] maxLocals = mkF m 0 #[.val (.int z0), .val (.int z1), .val (.int z2), .val (.int z3), .unset, .unset, .unset, .unset, .unset, .unset] [] := by
  all_goals first | (simp [entryFrame, mkF, argsToLocals, Value.category, maxLocals]; done) | rfl
theorem pn_3 : plainName "com/example/deodar/deodar/protocol/OutcomeIsDonePinLaw" = true := by first | (simp [plainName, overriddenIn]; done) | decide +kernel
theorem w_0 {a0 : Array Value} {Z : State} (hw : ∀ d ∈ tables_1, d.before a0 Z = true) : (Jvm.Cond.classLink "com/example/deodar/deodar/protocol/OutcomeIsDonePinLaw" (7 : Nat) "java/lang/String").before a0 Z = true := hw _ (List.mem_of_getElem? (i := 0) rfl)
theorem w_3 {a0 : Array Value} {Z : State} (hw : ∀ d ∈ tables_1, d.before a0 Z = true) : (Jvm.Cond.arrayClass Jvm.ClassFile.FieldType.char).before a0 Z = true := hw _ (List.mem_of_getElem? (i := 3) rfl)
theorem w_4 {a0 : Array Value} {Z : State} (hw : ∀ d ∈ tables_1, d.before a0 Z = true) : (Jvm.Cond.methodLink "com/example/deodar/deodar/protocol/OutcomeIsDonePinLaw" (9 : Nat) ({ cls := "java/lang/String", name := "<init>", desc := "([C)V" } : Jvm.MethodName)).before a0 Z = true := hw _ (List.mem_of_getElem? (i := 4) rfl)
theorem w_6 {a0 : Array Value} {Z : State} (hw : ∀ d ∈ tables_1, d.before a0 Z = true) : (Jvm.Cond.code ({ cls := "java/lang/String", name := "<init>", desc := "([C)V" } : Jvm.MethodName) jdk_42_method_3_code (2 : Nat) (Option.none : Option Jvm.ClassFile.FieldType)).before a0 Z = true := hw _ (List.mem_of_getElem? (i := 6) rfl)
theorem pd_3 : parseMethodDescriptor "([C)V" = some ⟨[(.array .char)], none⟩ := by decide +kernel
theorem w_5 {a0 : Array Value} {Z : State} (hw : ∀ d ∈ tables_1, d.before a0 Z = true) : (Jvm.Cond.instanceMethod ({ cls := "java/lang/String", name := "<init>", desc := "([C)V" } : Jvm.MethodName)).before a0 Z = true := hw _ (List.mem_of_getElem? (i := 5) rfl)
theorem w_22 {a0 : Array Value} {Z : State} (hw : ∀ d ∈ tables_1, d.before a0 Z = true) : (Jvm.Cond.classLink "com/example/deodar/deodar/protocol/OutcomeIsDonePinLaw" (12 : Nat) "com/example/deodar/deodar/protocol/Outcome").before a0 Z = true := hw _ (List.mem_of_getElem? (i := 22) rfl)
theorem w_25 {a0 : Array Value} {Z : State} (hw : ∀ d ∈ tables_1, d.before a0 Z = true) : (Jvm.Cond.methodLink "com/example/deodar/deodar/protocol/OutcomeIsDonePinLaw" (14 : Nat) ({ cls := "com/example/deodar/deodar/protocol/Outcome", name := "<init>", desc := "(ILjava/lang/String;)V" } : Jvm.MethodName)).before a0 Z = true := hw _ (List.mem_of_getElem? (i := 25) rfl)
theorem w_38 {a0 : Array Value} {Z : State} (hw : ∀ d ∈ tables_1, d.before a0 Z = true) : (Jvm.Cond.methodLink "com/example/deodar/deodar/protocol/OutcomeIsDonePinLaw" (17 : Nat) ({ cls := "com/example/deodar/deodar/protocol/Outcome", name := "isDone", desc := "()Z" } : Jvm.MethodName)).before a0 Z = true := hw _ (List.mem_of_getElem? (i := 38) rfl)
theorem w_42 {a0 : Array Value} {Z : State} (hw : ∀ d ∈ tables_1, d.before a0 Z = true) : (Jvm.Cond.code ({ cls := "com/example/deodar/deodar/protocol/Outcome", name := "isDone", desc := "()Z" } : Jvm.MethodName) prog_57_method_3_code (1 : Nat) (Option.some Jvm.ClassFile.FieldType.boolean)).before a0 Z = true := hw _ (List.mem_of_getElem? (i := 42) rfl)
theorem pd_4 : parseMethodDescriptor "()Z" = some ⟨[], some .boolean⟩ := by decide +kernel
theorem w_41 {a0 : Array Value} {Z : State} (hw : ∀ d ∈ tables_1, d.before a0 Z = true) : (Jvm.Cond.selects "com/example/deodar/deodar/protocol/Outcome" ({ cls := "com/example/deodar/deodar/protocol/Outcome", name := "isDone", desc := "()Z" } : Jvm.MethodName) ({ cls := "com/example/deodar/deodar/protocol/Outcome", name := "isDone", desc := "()Z" } : Jvm.MethodName)).before a0 Z = true := hw _ (List.mem_of_getElem? (i := 41) rfl)
theorem w_39 {a0 : Array Value} {Z : State} (hw : ∀ d ∈ tables_1, d.before a0 Z = true) : (Jvm.Cond.declares ({ cls := "com/example/deodar/deodar/protocol/Outcome", name := "isDone", desc := "()Z" } : Jvm.MethodName)).before a0 Z = true := hw _ (List.mem_of_getElem? (i := 39) rfl)
theorem w_40 {a0 : Array Value} {Z : State} (hw : ∀ d ∈ tables_1, d.before a0 Z = true) : (Jvm.Cond.instanceMethod ({ cls := "com/example/deodar/deodar/protocol/Outcome", name := "isDone", desc := "()Z" } : Jvm.MethodName)).before a0 Z = true := hw _ (List.mem_of_getElem? (i := 40) rfl)
theorem w_43 {a0 : Array Value} {Z : State} (hw : ∀ d ∈ tables_1, d.before a0 Z = true) : (Jvm.Cond.methodLink "com/example/deodar/deodar/protocol/OutcomeIsDonePinLaw" (21 : Nat) ({ cls := "com/example/deodar/deodar/protocol/Outcome", name := "done", desc := "(Ljava/lang/String;)Lcom/example/deodar/deodar/protocol/Outcome;" } : Jvm.MethodName)).before a0 Z = true := hw _ (List.mem_of_getElem? (i := 43) rfl)
theorem w_45 {a0 : Array Value} {Z : State} (hw : ∀ d ∈ tables_1, d.before a0 Z = true) : (Jvm.Cond.code ({ cls := "com/example/deodar/deodar/protocol/Outcome", name := "done", desc := "(Ljava/lang/String;)Lcom/example/deodar/deodar/protocol/Outcome;" } : Jvm.MethodName) prog_57_method_2_code (1 : Nat) (Option.some (Jvm.ClassFile.FieldType.object "com/example/deodar/deodar/protocol/Outcome"))).before a0 Z = true := hw _ (List.mem_of_getElem? (i := 45) rfl)
theorem pd_5 : parseMethodDescriptor "(Ljava/lang/String;)Lcom/example/deodar/deodar/protocol/Outcome;" = some ⟨[(.object "java/lang/String")], some (.object "com/example/deodar/deodar/protocol/Outcome")⟩ := by decide +kernel
theorem w_44 {a0 : Array Value} {Z : State} (hw : ∀ d ∈ tables_1, d.before a0 Z = true) : (Jvm.Cond.static ({ cls := "com/example/deodar/deodar/protocol/Outcome", name := "done", desc := "(Ljava/lang/String;)Lcom/example/deodar/deodar/protocol/Outcome;" } : Jvm.MethodName)).before a0 Z = true := hw _ (List.mem_of_getElem? (i := 44) rfl)
def Q0 (Z : State) (p1 : Int32) (p2 : Int32) (p3 : Int32) (p4 : Int32) (gC : Int32) (h0 : Heap) (n0 : Nat) (v : Option Value) (h : Heap) (L : List Loc) (ve : Vm) : Prop := v = some (.int 1) ∧ Fr n0 L
set_option maxRecDepth 65536 in
set_option maxHeartbeats 40000000 in
theorem rm0 (l : Launch) (Z : State) (a0 : Array Value) (hw : ∀ d ∈ tables_1, d.before a0 Z = true) (wsC : List Jvm.Cond) (p1 : Int32) (p2 : Int32) (p3 : Int32) (p4 : Int32) (gC : Int32) (h0 : Heap) (n0 : Nat) (Z0 : n0 ≤ h0.size) (OLD : Old Z n0 h0) (O2 : Sta Z Z.heap "java/lang/String" "COMPACT_STRINGS" "Z" (.int gC)) (hz : ¬ gC = (0 : Int32)) (hCH : Jvm.Lit.constHeld Z "java/lang/String" 7) (hCW : Jvm.Lit.compactW.before a0 Z = true) :
    MetFree l x (head1 (Jvm.Cond.code x code maxLocals ret :: wsC) room_1) (fun a U => a = #[(.int p1), (.int p2), (.int p3), (.int p4)] ∧ Z.Warmed39 U.vm ∧ U.heap = h0 ∧ own_Cold Z U.vm) (fun _ _ _ _ _ => True) (fun _ U o U' => ∃ v L, o = .returned v ∧ Q0 Z p1 p2 p3 p4 gC h0 n0 v U'.heap L U'.vm ∧ ReturnedEndW U o U' L room_1.cells room_1.slots) := by
  refine MetFree.of_bodySF (plainFor_of_name pn_3) hisR ?_
  intro p e s0 m args below meth c s₁ Bd hml0 hP hK
  obtain ⟨rfl, hZ, hh, IB0⟩ := hP
  have hx := Bd.exec
  have hby := Bd.bytes
  have hml : c.maxLocals = 10 := hml0
  obtain ⟨vmw, hvw⟩ : ∃ z, z = s0.vm := ⟨_, rfl⟩
  obtain ⟨s, hsE⟩ : ∃ z, z = s0.setVm vmw := ⟨_, rfl⟩
  have SI : s0.Since vmw 0 := by rw [hvw]; exact (State.WarmedH.refl s0).since 0
  have W0 : 0 ≤ h0.size := Nat.zero_le _
  have hss : s = s0 := by rw [hsE, hvw]; rfl
  rw [← hss] at hZ
  replace IB0 : own_Cold Z vmw := by rw [hvw]; exact IB0
  have hown : s.vm.findClass "com/example/deodar/deodar/protocol/OutcomeIsDonePinLaw" = some m.cls := by rw [hss]; exact findClass_of_methodNamed Bd.named
  have hnm := (name_of_methodNamed Bd.named Bd.method).1
  have X0 : Stand p l e room_1 s m #[(.int p1), (.int p2), (.int p3), (.int p4)] below meth c s₁ [] 0 0 := by rw [hss]; exact Stand.of_body Bd
  clear hss hvw
  skip
  have e0 : s₁.heap = h0 := by rw [← hh, Bd.state]; rfl
  have NF := Fr.nil n0
  refine WP.go ?_
  refine WP.cast (ef_0 m p1 p2 p3 p4) ?_
  refine WP.name ?_
  intro G hG
  refine WP.st (T' := s₁) (f' := (mkF m 5 #[.val (.int p1), .val (.int p2), .val (.int p3), .val (.int p4), .val (.int (p2 &&& (3 : Int32))), .unset, .unset, .unset, .unset, .unset] [])) (fun t k => ?_) ?_
  · refine XS.iloadN X0.here hx rfl (hb hby at_0) rfl ?_
    show Steps p.tables e below (s₁.setTop (mkF m 1 #[.val (.int p1), .val (.int p2), .val (.int p3), .val (.int p4), .unset, .unset, .unset, .unset, .unset, .unset] [(.int p2)])) t
    refine XS.iconst X0.here hx rfl (hb hby at_1) ?_
    show Steps p.tables e below (s₁.setTop (mkF m 2 #[.val (.int p1), .val (.int p2), .val (.int p3), .val (.int p4), .unset, .unset, .unset, .unset, .unset, .unset] [(.int (3 : Int32)), (.int p2)])) t
    refine XS.iand X0.here hx rfl (hb hby at_2) rfl ?_
    show Steps p.tables e below (s₁.setTop (mkF m 3 #[.val (.int p1), .val (.int p2), .val (.int p3), .val (.int p4), .unset, .unset, .unset, .unset, .unset, .unset] [(.int (p2 &&& (3 : Int32)))])) t
    refine XS.istore X0.here hx rfl (hb hby at_3) rfl (l' := #[.val (.int p1), .val (.int p2), .val (.int p3), .val (.int p4), .val (.int (p2 &&& (3 : Int32))), .unset, .unset, .unset, .unset, .unset]) rfl ?_
    exact k
  have J25 : ∀ (Tj25 : State) (Lj25 : List Loc)  (sv : Int32), Stand p l e room_1 s m #[(.int p1), (.int p2), (.int p3), (.int p4)] below meth c Tj25 Lj25 0 0 → Tj25.heap = h0 → Fr n0 Lj25 → WP p.tables e below G Tj25 (mkF m 42 #[.val (.int p1), .val (.int p2), .val (.int p3), .val (.int p4), .val (.int (p2 &&& (3 : Int32))), .val (.int sv), .unset, .unset, .unset, .unset] []) := by
    clear NF
    intro Tj25 Lj25  sv X25 ej25 NF
    refine WP.st (T' := Tj25) (f' := (mkF m 47 #[.val (.int p1), .val (.int p2), .val (.int p3), .val (.int p4), .val (.int (p2 &&& (3 : Int32))), .val (.int sv), .unset, .unset, .unset, .unset] [(.int ((p2 >>> ((2 : Int32) &&& 31)) &&& (1 : Int32)))])) (fun t k => ?_) ?_
    · refine XS.iloadN X25.here hx rfl (hb hby at_42) rfl ?_
      show Steps p.tables e below (Tj25.setTop (mkF m 43 #[.val (.int p1), .val (.int p2), .val (.int p3), .val (.int p4), .val (.int (p2 &&& (3 : Int32))), .val (.int sv), .unset, .unset, .unset, .unset] [(.int p2)])) t
      refine XS.iconst X25.here hx rfl (hb hby at_43) ?_
      show Steps p.tables e below (Tj25.setTop (mkF m 44 #[.val (.int p1), .val (.int p2), .val (.int p3), .val (.int p4), .val (.int (p2 &&& (3 : Int32))), .val (.int sv), .unset, .unset, .unset, .unset] [(.int (2 : Int32)), (.int p2)])) t
      refine XS.ishr X25.here hx rfl (hb hby at_44) rfl ?_
      show Steps p.tables e below (Tj25.setTop (mkF m 45 #[.val (.int p1), .val (.int p2), .val (.int p3), .val (.int p4), .val (.int (p2 &&& (3 : Int32))), .val (.int sv), .unset, .unset, .unset, .unset] [(.int (p2 >>> ((2 : Int32) &&& 31)))])) t
      refine XS.iconst X25.here hx rfl (hb hby at_45) ?_
      show Steps p.tables e below (Tj25.setTop (mkF m 46 #[.val (.int p1), .val (.int p2), .val (.int p3), .val (.int p4), .val (.int (p2 &&& (3 : Int32))), .val (.int sv), .unset, .unset, .unset, .unset] [(.int (1 : Int32)), (.int (p2 >>> ((2 : Int32) &&& 31)))])) t
      refine XS.iand X25.here hx rfl (hb hby at_46) rfl ?_
      exact k
    by_cases hc26 : ((p2 >>> ((2 : Int32) &&& 31)) &&& (1 : Int32)) = (0 : Int32)
    · skip
      refine WP.st (T' := Tj25) (f' := (mkF m 50 #[.val (.int p1), .val (.int p2), .val (.int p3), .val (.int p4), .val (.int (p2 &&& (3 : Int32))), .val (.int sv), .unset, .unset, .unset, .unset] [])) (fun t k => ?_) ?_
      · refine XS.ifNo X25.here hx rfl (hb hby at_47) rfl ((if0 _ _).trans (teq hc26).2) ?_
        exact k
      obtain ⟨T27, h27, X27, e27, E27, A27, D27, -, st27⟩ := newO X25 hx hZ hown (w_0 hw) (w_1 hw) (w_2 hw) ej25 (g := (mkF m 50 #[.val (.int p1), .val (.int p2), .val (.int p3), .val (.int p4), .val (.int (p2 &&& (3 : Int32))), .val (.int sv), .unset, .unset, .unset, .unset] [])) rfl (hb hby at_50) (by decide) (by decide)
      obtain ⟨b27, g27⟩ : ∃ z, z = h0.size := ⟨_, rfl⟩
      rw [← g27] at A27 D27 st27
      refine WP.st st27 ?_
      clear st27
      have g_b27 : n0 ≤ b27 := Nat.le_trans Z0 (Nat.le_of_eq g27.symm)
      replace OLD := OLD.ext E27
      replace Z0 := Nat.le_trans Z0 E27.1
      replace W0 := Nat.le_trans W0 E27.1
      have E_b27 := A27
      have F_b27_value : Fld Z h27 b27 "java/lang/String" "value" "[B" .null := D27 (Or.inr (w_16 hw)) (ty := (.array .byte)) (by decide)
      have F_b27_coder : Fld Z h27 b27 "java/lang/String" "coder" "B" (.int (0 : Int32)) := D27 (Or.inr (w_17 hw)) (ty := .byte) (by decide)
      clear D27 A27
      show WP p.tables e below _ T27 (mkF m 53 #[.val (.int p1), .val (.int p2), .val (.int p3), .val (.int p4), .val (.int (p2 &&& (3 : Int32))), .val (.int sv), .unset, .unset, .unset, .unset] [(.ref b27)])
      refine WP.st (T' := T27) (f' := (mkF m 55 #[.val (.int p1), .val (.int p2), .val (.int p3), .val (.int p4), .val (.int (p2 &&& (3 : Int32))), .val (.int sv), .unset, .unset, .unset, .unset] [(.int (0 : Int32)), (.ref b27), (.ref b27)])) (fun t k => ?_) ?_
      · refine XS.dup X27.here hx rfl (hb hby at_53) rfl rfl ?_
        show Steps p.tables e below (T27.setTop (mkF m 54 #[.val (.int p1), .val (.int p2), .val (.int p3), .val (.int p4), .val (.int (p2 &&& (3 : Int32))), .val (.int sv), .unset, .unset, .unset, .unset] [(.ref b27), (.ref b27)])) t
        refine XS.iconst X27.here hx rfl (hb hby at_54) ?_
        exact k
      obtain ⟨T28, h28, k28, X28, e28, E28, A28, st28⟩ := newP (aty := .char) X27 hx hZ (w_3 hw) e27 (g := (mkF m 55 #[.val (.int p1), .val (.int p2), .val (.int p3), .val (.int p4), .val (.int (p2 &&& (3 : Int32))), .val (.int sv), .unset, .unset, .unset, .unset] [(.int (0 : Int32)), (.ref b27), (.ref b27)])) rfl (hb hby at_55) rfl (by decide) (cap := 0) (by decide) (by decide) (by decide) (by decide)
      obtain ⟨b28, g28⟩ : ∃ z, z = h27.size := ⟨_, rfl⟩
      rw [← g28] at A28 st28
      refine WP.st st28 ?_
      clear st28
      have ne_b27_b28 : b27 ≠ b28 := Nat.ne_of_lt (Nat.lt_of_lt_of_le E_b27.lt (Nat.le_of_eq g28.symm))
      have g_b28 : n0 ≤ b28 := Nat.le_trans Z0 (Nat.le_of_eq g28.symm)
      replace OLD := OLD.ext E28
      replace E_b27 := E_b27.ext E28
      replace F_b27_value := F_b27_value.ext E28
      replace F_b27_coder := F_b27_coder.ext E28
      replace Z0 := Nat.le_trans Z0 E28.1
      replace W0 := Nat.le_trans W0 E28.1
      have V_b28 : Arv Z h28 b28 k28 .char (0 : Int32) [] (.int (0 : Int32)) := (Arv.new A28 (by decide)).pad (pad_rep [] (.int (0 : Int32)) 0)
      show WP p.tables e below _ T28 (mkF m 57 #[.val (.int p1), .val (.int p2), .val (.int p3), .val (.int p4), .val (.int (p2 &&& (3 : Int32))), .val (.int sv), .unset, .unset, .unset, .unset] [(.ref b28), (.ref b27), (.ref b27)])
      subst hsE
      obtain ⟨_, _, ⟨T29, L29, k29, n29⟩, -, X29, SJ29, gr29, ⟨Lc29, hQ29, l29, y29, z29⟩, st29⟩ := X28.specialBackS hx (y := (⟨"java/lang/String", "<init>", "([C)V"⟩ : MethodName)) rfl hown (mvT hZ (w_4 hw)) (mvT hZ (w_5 hw)) (mvT hZ (w_6 hw)) (by decide) (own_backOfJ (J := own_Cold Z) (W := 1) (rm1 l Z a0 hw [] b27 b28 k28 [] h28 n0 Z0 E_b27 g_b27 F_b27_value F_b27_coder V_b28 OLD (hCH : Jvm.Lit.constHeld Z "java/lang/String" 7) (hCW : Jvm.Lit.compactW.before a0 Z = true)) hZ (fun _ q => own_coldMv IB0 q) (w_6 hw) (w_2 hw) (by decide) (by decide)) (g := (mkF m 57 #[.val (.int p1), .val (.int p2), .val (.int p3), .val (.int p4), .val (.int (p2 &&& (3 : Int32))), .val (.int sv), .unset, .unset, .unset, .unset] [(.ref b28), (.ref b27), (.ref b27)])) rfl (by rw [hml]; rfl) (Steps.refl _) (a := b27) (argsL := [(.ref b28)]) (rest := [(.ref b27)]) (lenOf pd_3 rfl) rfl (by show 2 * 0 + _ ≤ _; exact Nat.le_of_eq rfl) (hb hby at_57) (fun _ _ => ⟨rfl, e28, (by decide : 2 + 2 ≤ _), (by decide : 4 + 4 ≤ _)⟩)
      dsimp only [Pt.U, Pt.locs, Pt.cells, Pt.slots] at X29 l29 y29 z29 st29 hQ29 SJ29 gr29
      subst l29 y29 z29
      have SI29 := foldS SI (T := T28) (Nat.le_trans W0 (Nat.le_of_eq (by rw [e28]))) SJ29 gr29
      have hZ29 := State.Warmed39.trans (t := s0.setVm vmw) hZ SJ29.1
      have hown29 : T29.vm.findClass "com/example/deodar/deodar/protocol/OutcomeIsDonePinLaw" = some m.cls := by rw [SJ29.1.alike.findClass]; exact hown
      obtain ⟨la_29, lb_29, lk_29, rfl, Nq29, Kq29, nE29_b27, nF29_b27_coder, nF29_b27_value, nA29_lb_29, LT29⟩ := hQ29
      replace NF := Fr.app NF Nq29
      clear Nq29
      refine WP.tr st29 ?_
      clear st29
      obtain ⟨h29, e29⟩ : ∃ h, T29.heap = h := ⟨_, rfl⟩
      rw [e29] at Kq29 nE29_b27 nF29_b27_coder nF29_b27_value nA29_lb_29
      replace OLD := OLD.keep Kq29 (allS g_b27 all0)
      replace E_b27 := E_b27.keep Kq29
      clear F_b27_value
      clear F_b27_coder
      replace V_b28 := V_b28.keep Kq29 (by exact ninS (Ne.symm ne_b27_b28) (nin0))
      replace Z0 := Nat.le_trans Z0 Kq29.1
      replace W0 := Nat.le_trans W0 Kq29.1
      clear Kq29
      clear E_b27
      have E_b27 := nE29_b27
      clear nE29_b27
      have F_b27_coder := nF29_b27_coder
      clear nF29_b27_coder
      have F_b27_value := nF29_b27_value
      clear nF29_b27_value
      have V_lb_29 := nA29_lb_29
      clear nA29_lb_29
      clear W0
      have W0 : T29.heap.size ≤ h29.size := Nat.le_of_eq (by rw [e29])
      clear hZ hown SI IB0
      obtain ⟨vmw, hvw⟩ : ∃ z, z = T29.vm := ⟨_, rfl⟩
      replace hZ29 : Z.Warmed39 vmw := by rw [hvw]; exact hZ29
      replace hown29 : vmw.findClass "com/example/deodar/deodar/protocol/OutcomeIsDonePinLaw" = some m.cls := by rw [hvw]; exact hown29
      have SI := SI29
      clear SI29
      rw [← hvw] at SI
      have LT : own_Hot Z la_29 vmw := by rw [hvw]; exact LT29
      clear LT29
      obtain ⟨s, hsE⟩ : ∃ z, z = s0.setVm vmw := ⟨_, rfl⟩
      have hX : ∃ LL, Stand p l e room_1 s m #[(.int p1), (.int p2), (.int p3), (.int p4)] below meth c T29 LL 4 8 ∧ Fr n0 LL := ⟨_, (by rw [hsE, hvw]; exact X29), NF⟩
      clear X29 NF
      obtain ⟨LL29, X29, NF⟩ := hX
      clear hvw
      have hZ : Z.Warmed39 s.vm := by rw [hsE]; exact hZ29
      have hown : s.vm.findClass "com/example/deodar/deodar/protocol/OutcomeIsDonePinLaw" = some m.cls := by rw [hsE]; exact hown29
      clear hZ29 hown29
      have hXN : ∃ LL, Stand p l e room_1 s m #[(.int p1), (.int p2), (.int p3), (.int p4)] below meth c T29 LL 4 8 ∧ Fr n0 LL := ⟨_, X29, NF⟩
      clear X29 NF
      obtain ⟨LL30, X29, NF⟩ := hXN
      show WP p.tables e below _ T29 (mkF m 60 #[.val (.int p1), .val (.int p2), .val (.int p3), .val (.int p4), .val (.int (p2 &&& (3 : Int32))), .val (.int sv), .unset, .unset, .unset, .unset] [(.ref b27)])
      refine WP.st (T' := T29) (f' := (mkF m 101 #[.val (.int p1), .val (.int p2), .val (.int p3), .val (.int p4), .val (.int (p2 &&& (3 : Int32))), .val (.int sv), .val (.ref b27), .unset, .unset, .unset] [])) (fun t k => ?_) ?_
      · refine XS.astore X29.here hx rfl (hb hby at_60) rfl rfl (l' := #[.val (.int p1), .val (.int p2), .val (.int p3), .val (.int p4), .val (.int (p2 &&& (3 : Int32))), .val (.int sv), .val (.ref b27), .unset, .unset, .unset]) rfl ?_
        show Steps p.tables e below (T29.setTop (mkF m 62 #[.val (.int p1), .val (.int p2), .val (.int p3), .val (.int p4), .val (.int (p2 &&& (3 : Int32))), .val (.int sv), .val (.ref b27), .unset, .unset, .unset] [])) t
        refine XS.goto X29.here hx rfl (pc0 := 62) (pc' := 101) rfl (hb hby at_62) (by decide) (by decide) ?_
        exact k
      obtain ⟨T31, h31, X31, e31, E31, A31, D31, -, st31⟩ := newO X29 hx hZ hown (w_22 hw) (w_23 hw) (w_24 hw) e29 (g := (mkF m 101 #[.val (.int p1), .val (.int p2), .val (.int p3), .val (.int p4), .val (.int (p2 &&& (3 : Int32))), .val (.int sv), .val (.ref b27), .unset, .unset, .unset] [])) rfl (hb hby at_101) (by decide) (by decide)
      obtain ⟨b31, g31⟩ : ∃ z, z = h29.size := ⟨_, rfl⟩
      rw [← g31] at A31 D31 st31
      refine WP.st st31 ?_
      clear st31
      have ne_b27_b31 : b27 ≠ b31 := Nat.ne_of_lt (Nat.lt_of_lt_of_le E_b27.lt (Nat.le_of_eq g31.symm))
      have ne_b28_b31 : b28 ≠ b31 := Nat.ne_of_lt (Nat.lt_of_lt_of_le V_b28.lt (Nat.le_of_eq g31.symm))
      have ne_lb_29_b31 : lb_29 ≠ b31 := Nat.ne_of_lt (Nat.lt_of_lt_of_le V_lb_29.lt (Nat.le_of_eq g31.symm))
      have g_b31 : n0 ≤ b31 := Nat.le_trans Z0 (Nat.le_of_eq g31.symm)
      replace OLD := OLD.ext E31
      replace E_b27 := E_b27.ext E31
      replace V_b28 := V_b28.ext E31
      replace F_b27_coder := F_b27_coder.ext E31
      replace F_b27_value := F_b27_value.ext E31
      replace V_lb_29 := V_lb_29.ext E31
      replace Z0 := Nat.le_trans Z0 E31.1
      replace W0 := Nat.le_trans W0 E31.1
      have E_b31 := A31
      have F_b31_status : Fld Z h31 b31 "com/example/deodar/deodar/protocol/Outcome" "status" "I" (.int (0 : Int32)) := D31 (Or.inr (w_35 hw)) (ty := .int) (by decide)
      have F_b31_text : Fld Z h31 b31 "com/example/deodar/deodar/protocol/Outcome" "text" "Ljava/lang/String;" .null := D31 (Or.inr (w_37 hw)) (ty := (.object "java/lang/String")) (by decide)
      clear D31 A31
      show WP p.tables e below _ T31 (mkF m 104 #[.val (.int p1), .val (.int p2), .val (.int p3), .val (.int p4), .val (.int (p2 &&& (3 : Int32))), .val (.int sv), .val (.ref b27), .unset, .unset, .unset] [(.ref b31)])
      refine WP.st (T' := T31) (f' := (mkF m 109 #[.val (.int p1), .val (.int p2), .val (.int p3), .val (.int p4), .val (.int (p2 &&& (3 : Int32))), .val (.int sv), .val (.ref b27), .unset, .unset, .unset] [(.ref b27), (.int sv), (.ref b31), (.ref b31)])) (fun t k => ?_) ?_
      · refine XS.dup X31.here hx rfl (hb hby at_104) rfl rfl ?_
        show Steps p.tables e below (T31.setTop (mkF m 105 #[.val (.int p1), .val (.int p2), .val (.int p3), .val (.int p4), .val (.int (p2 &&& (3 : Int32))), .val (.int sv), .val (.ref b27), .unset, .unset, .unset] [(.ref b31), (.ref b31)])) t
        refine XS.iload X31.here hx rfl (hb hby at_105) rfl ?_
        show Steps p.tables e below (T31.setTop (mkF m 107 #[.val (.int p1), .val (.int p2), .val (.int p3), .val (.int p4), .val (.int (p2 &&& (3 : Int32))), .val (.int sv), .val (.ref b27), .unset, .unset, .unset] [(.int sv), (.ref b31), (.ref b31)])) t
        refine XS.aload X31.here hx rfl (hb hby at_107) rfl rfl ?_
        exact k
      obtain ⟨_, _, ⟨T32, L32, k32, n32⟩, -, X32, ⟨Lc32, hQ32, l32, y32, z32⟩, st32⟩ := X31.specialBack hx (y := (⟨"com/example/deodar/deodar/protocol/Outcome", "<init>", "(ILjava/lang/String;)V"⟩ : MethodName)) rfl hown (mvT hZ (w_25 hw)) (mvT hZ (w_26 hw)) (mvT hZ (w_27 hw)) (by decide) (backOf (W := 1) (rm4 l Z a0 hw [] b31 sv (Value.ref b27) (0 : Int32) Value.null h31 n0 Z0 E_b31 g_b31 F_b31_status F_b31_text (by first | rfl | assumption | decide | omega : (Value.ref b27).isRef = true)) hZ (w_27 hw) (w_24 hw) (by decide) (by decide)) (g := (mkF m 109 #[.val (.int p1), .val (.int p2), .val (.int p3), .val (.int p4), .val (.int (p2 &&& (3 : Int32))), .val (.int sv), .val (.ref b27), .unset, .unset, .unset] [(.ref b27), (.int sv), (.ref b31), (.ref b31)])) rfl (by rw [hml]; rfl) (Steps.refl _) (a := b31) (argsL := [(.int sv), (.ref b27)]) (rest := [(.ref b31)]) (lenOf pd_2 rfl) rfl (by show 2 * 0 + _ ≤ _; exact Nat.le_of_eq rfl) (hb hby at_109) (fun _ _ => ⟨rfl, e31, (by decide : 5 + 0 ≤ _), (by decide : 10 + 0 ≤ _)⟩)
      dsimp only [Pt.U, Pt.locs, Pt.cells, Pt.slots] at X32 l32 y32 z32 st32 hQ32
      subst l32 y32 z32
      obtain ⟨rfl, Nq32, Kq32, nF32_b31_status, nF32_b31_text⟩ := hQ32
      replace NF := Fr.app NF Nq32
      clear Nq32
      refine WP.tr st32 ?_
      clear st32
      obtain ⟨h32, e32⟩ : ∃ h, T32.heap = h := ⟨_, rfl⟩
      rw [e32] at Kq32 nF32_b31_status nF32_b31_text
      replace OLD := OLD.keep Kq32 (allS g_b31 all0)
      replace E_b27 := E_b27.keep Kq32
      replace V_b28 := V_b28.keep Kq32 (by exact ninS ne_b28_b31 (nin0))
      replace F_b27_coder := F_b27_coder.keep Kq32 (by exact ninS ne_b27_b31 (nin0))
      replace F_b27_value := F_b27_value.keep Kq32 (by exact ninS ne_b27_b31 (nin0))
      replace V_lb_29 := V_lb_29.keep Kq32 (by exact ninS ne_lb_29_b31 (nin0))
      replace E_b31 := E_b31.keep Kq32
      clear F_b31_status
      clear F_b31_text
      replace Z0 := Nat.le_trans Z0 Kq32.1
      replace W0 := Nat.le_trans W0 Kq32.1
      clear Kq32
      have F_b31_status := nF32_b31_status
      clear nF32_b31_status
      have F_b31_text := nF32_b31_text
      clear nF32_b31_text
      have hXN : ∃ LL, Stand p l e room_1 s m #[(.int p1), (.int p2), (.int p3), (.int p4)] below meth c T32 LL 5 10 ∧ Fr n0 LL := ⟨_, X32, NF⟩
      clear X32 NF
      obtain ⟨LL33, X32, NF⟩ := hXN
      show WP p.tables e below _ T32 (mkF m 112 #[.val (.int p1), .val (.int p2), .val (.int p3), .val (.int p4), .val (.int (p2 &&& (3 : Int32))), .val (.int sv), .val (.ref b27), .unset, .unset, .unset] [(.ref b31)])
      refine WP.st (T' := T32) (f' := (mkF m 116 #[.val (.int p1), .val (.int p2), .val (.int p3), .val (.int p4), .val (.int (p2 &&& (3 : Int32))), .val (.int sv), .val (.ref b27), .val (.ref b31), .unset, .unset] [(.ref b31)])) (fun t k => ?_) ?_
      · refine XS.astore X32.here hx rfl (hb hby at_112) rfl rfl (l' := #[.val (.int p1), .val (.int p2), .val (.int p3), .val (.int p4), .val (.int (p2 &&& (3 : Int32))), .val (.int sv), .val (.ref b27), .val (.ref b31), .unset, .unset]) rfl ?_
        show Steps p.tables e below (T32.setTop (mkF m 114 #[.val (.int p1), .val (.int p2), .val (.int p3), .val (.int p4), .val (.int (p2 &&& (3 : Int32))), .val (.int sv), .val (.ref b27), .val (.ref b31), .unset, .unset] [])) t
        refine XS.aload X32.here hx rfl (hb hby at_114) rfl rfl ?_
        exact k
      obtain ⟨cq34, kq34, q34a, q34b, q34c⟩ := isOf hZ e32 E_b31
      obtain ⟨_, _, ⟨T34, L34, k34, n34⟩, -, X34, ⟨Lc34, hQ34, l34, y34, z34⟩, st34⟩ := X32.virtualBack hx (y := (⟨"com/example/deodar/deodar/protocol/Outcome", "isDone", "()Z"⟩ : MethodName)) (z := (⟨"com/example/deodar/deodar/protocol/Outcome", "isDone", "()Z"⟩ : MethodName)) hown (mvT hZ (w_38 hw)) (mvT hZ (w_39 hw)) (notFace_of_selects (args := #[]) (mvT hZ (w_41 hw))) (mvT hZ (w_41 hw)) (mvT hZ (w_40 hw)) (by decide) (backOf (W := 0) (rm6 l Z a0 hw [] b31 sv h32 n0 Z0 F_b31_status) hZ (w_42 hw) (w_24 hw) (by decide) (by decide)) q34a q34c (g := (mkF m 116 #[.val (.int p1), .val (.int p2), .val (.int p3), .val (.int p4), .val (.int (p2 &&& (3 : Int32))), .val (.int sv), .val (.ref b27), .val (.ref b31), .unset, .unset] [(.ref b31)])) rfl (by rw [hml]; rfl) (Steps.refl _) (argsL := []) (rest := []) (lenOf pd_4 rfl) rfl (by show 2 * 0 + _ ≤ _; exact Nat.le_of_eq rfl) (hb hby at_116) (fun _ _ => ⟨rfl, e32, (by decide : 5 + 0 ≤ _), (by decide : 10 + 0 ≤ _)⟩)
      dsimp only [Pt.U, Pt.locs, Pt.cells, Pt.slots] at X34 l34 y34 z34 st34 hQ34
      subst l34 y34 z34
      obtain ⟨rfl, Nq34, Kq34⟩ := hQ34
      replace NF := Fr.app NF Nq34
      clear Nq34
      refine WP.tr st34 ?_
      clear st34
      replace Kq34 := Kq34.trans (rfl : h32 = h32)
      have hXN : ∃ LL, Stand p l e room_1 s m #[(.int p1), (.int p2), (.int p3), (.int p4)] below meth c T34 LL 5 10 ∧ Fr n0 LL := ⟨_, X34, NF⟩
      clear X34 NF
      obtain ⟨LL35, X34, NF⟩ := hXN
      show WP p.tables e below _ T34 (mkF m 119 #[.val (.int p1), .val (.int p2), .val (.int p3), .val (.int p4), .val (.int (p2 &&& (3 : Int32))), .val (.int sv), .val (.ref b27), .val (.ref b31), .unset, .unset] [(.int (if sv = (200 : Int32) then (1 : Int32) else (0 : Int32)))])
      by_cases hc36 : sv = (200 : Int32)
      · skip
        rw [show (if sv = (200 : Int32) then (1 : Int32) else (0 : Int32)) = (1 : Int32) from if_pos hc36]
        show WP p.tables e below _ T34 (mkF m 119 #[.val (.int p1), .val (.int p2), .val (.int p3), .val (.int p4), .val (.int (p2 &&& (3 : Int32))), .val (.int sv), .val (.ref b27), .val (.ref b31), .unset, .unset] [(.int (1 : Int32))])
        refine WP.st (T' := T34) (f' := (mkF m 144 #[.val (.int p1), .val (.int p2), .val (.int p3), .val (.int p4), .val (.int (p2 &&& (3 : Int32))), .val (.int sv), .val (.ref b27), .val (.ref b31), .val (.int (1 : Int32)), .unset] [(.ref b27)])) (fun t k => ?_) ?_
        · refine XS.iload X34.here hx rfl (hb hby at_119) rfl ?_
          show Steps p.tables e below (T34.setTop (mkF m 121 #[.val (.int p1), .val (.int p2), .val (.int p3), .val (.int p4), .val (.int (p2 &&& (3 : Int32))), .val (.int sv), .val (.ref b27), .val (.ref b31), .unset, .unset] [(.int sv), (.int (1 : Int32))])) t
          refine XS.sipush X34.here hx rfl (hb hby at_121) ?_
          show Steps p.tables e below (T34.setTop (mkF m 124 #[.val (.int p1), .val (.int p2), .val (.int p3), .val (.int p4), .val (.int (p2 &&& (3 : Int32))), .val (.int sv), .val (.ref b27), .val (.ref b31), .unset, .unset] [(.int (200 : Int32)), (.int sv), (.int (1 : Int32))])) t
          refine XS.icmpNo X34.here hx rfl (hb hby at_124) rfl (teq hc36).2 ?_
          show Steps p.tables e below (T34.setTop (mkF m 127 #[.val (.int p1), .val (.int p2), .val (.int p3), .val (.int p4), .val (.int (p2 &&& (3 : Int32))), .val (.int sv), .val (.ref b27), .val (.ref b31), .unset, .unset] [(.int (1 : Int32))])) t
          refine XS.iconst X34.here hx rfl (hb hby at_127) ?_
          show Steps p.tables e below (T34.setTop (mkF m 128 #[.val (.int p1), .val (.int p2), .val (.int p3), .val (.int p4), .val (.int (p2 &&& (3 : Int32))), .val (.int sv), .val (.ref b27), .val (.ref b31), .unset, .unset] [(.int (1 : Int32)), (.int (1 : Int32))])) t
          refine XS.goto X34.here hx rfl (pc0 := 128) (pc' := 132) rfl (hb hby at_128) (by decide) (by decide) ?_
          show Steps p.tables e below (T34.setTop (mkF m 132 #[.val (.int p1), .val (.int p2), .val (.int p3), .val (.int p4), .val (.int (p2 &&& (3 : Int32))), .val (.int sv), .val (.ref b27), .val (.ref b31), .unset, .unset] [(.int (1 : Int32)), (.int (1 : Int32))])) t
          refine XS.icmpNo X34.here hx rfl (hb hby at_132) rfl (teq (by decide : (1 : Int32) = (1 : Int32))).2 ?_
          show Steps p.tables e below (T34.setTop (mkF m 135 #[.val (.int p1), .val (.int p2), .val (.int p3), .val (.int p4), .val (.int (p2 &&& (3 : Int32))), .val (.int sv), .val (.ref b27), .val (.ref b31), .unset, .unset] [])) t
          refine XS.iconst X34.here hx rfl (hb hby at_135) ?_
          show Steps p.tables e below (T34.setTop (mkF m 136 #[.val (.int p1), .val (.int p2), .val (.int p3), .val (.int p4), .val (.int (p2 &&& (3 : Int32))), .val (.int sv), .val (.ref b27), .val (.ref b31), .unset, .unset] [(.int (1 : Int32))])) t
          refine XS.goto X34.here hx rfl (pc0 := 136) (pc' := 140) rfl (hb hby at_136) (by decide) (by decide) ?_
          show Steps p.tables e below (T34.setTop (mkF m 140 #[.val (.int p1), .val (.int p2), .val (.int p3), .val (.int p4), .val (.int (p2 &&& (3 : Int32))), .val (.int sv), .val (.ref b27), .val (.ref b31), .unset, .unset] [(.int (1 : Int32))])) t
          refine XS.istore X34.here hx rfl (hb hby at_140) rfl (l' := #[.val (.int p1), .val (.int p2), .val (.int p3), .val (.int p4), .val (.int (p2 &&& (3 : Int32))), .val (.int sv), .val (.ref b27), .val (.ref b31), .val (.int (1 : Int32)), .unset]) rfl ?_
          show Steps p.tables e below (T34.setTop (mkF m 142 #[.val (.int p1), .val (.int p2), .val (.int p3), .val (.int p4), .val (.int (p2 &&& (3 : Int32))), .val (.int sv), .val (.ref b27), .val (.ref b31), .val (.int (1 : Int32)), .unset] [])) t
          refine XS.aload X34.here hx rfl (hb hby at_142) rfl rfl ?_
          exact k
        obtain ⟨_, _, ⟨T37, L37, k37, n37⟩, -, X37, ⟨Lc37, hQ37, l37, y37, z37⟩, st37⟩ := Jvm.LawKit.callS X34 hx (y := (⟨"com/example/deodar/deodar/protocol/Outcome", "done", "(Ljava/lang/String;)Lcom/example/deodar/deodar/protocol/Outcome;"⟩ : MethodName)) hown (mvT hZ (w_43 hw)) (mvT hZ (w_44 hw)) (mvT hZ (w_24 hw)) (mvT hZ (w_45 hw)) (by decide) (backOf (W := 0) (rm7 l Z a0 hw [] (Value.ref b27) h32 n0 Z0 OLD (by first | rfl | assumption | decide | omega : (Value.ref b27).isRef = true)) hZ (w_45 hw) (w_24 hw) (by decide) (by decide)) (g := (mkF m 144 #[.val (.int p1), .val (.int p2), .val (.int p3), .val (.int p4), .val (.int (p2 &&& (3 : Int32))), .val (.int sv), .val (.ref b27), .val (.ref b31), .val (.int (1 : Int32)), .unset] [(.ref b27)])) rfl (by rw [hml]; rfl) (argsL := [(.ref b27)]) (rest := []) (lenOf pd_5 rfl) rfl (by show 2 * 0 + _ ≤ _; exact Nat.le_of_eq rfl) (hb hby at_144) (fun _ _ => ⟨rfl, Kq34, (by decide : 5 + 1 ≤ _), (by decide : 10 + 2 ≤ _)⟩)
        dsimp only [Pt.U, Pt.locs, Pt.cells, Pt.slots] at X37 l37 y37 z37 st37 hQ37
        subst l37 y37 z37
        obtain ⟨r_37, rfl, Nq37, Kq37, szq_r_37, nE37_r_37, nF37_r_37_status⟩ := hQ37
        replace NF := Fr.app NF Nq37
        clear Nq37
        refine WP.st st37 ?_
        clear st37
        obtain ⟨h37, e37⟩ : ∃ h, T37.heap = h := ⟨_, rfl⟩
        rw [e37] at Kq37 nE37_r_37 nF37_r_37_status
        have ne_b27_r_37 : b27 ≠ r_37 := Nat.ne_of_lt (Nat.lt_of_lt_of_le E_b27.lt szq_r_37)
        have ne_b28_r_37 : b28 ≠ r_37 := Nat.ne_of_lt (Nat.lt_of_lt_of_le V_b28.lt szq_r_37)
        have ne_lb_29_r_37 : lb_29 ≠ r_37 := Nat.ne_of_lt (Nat.lt_of_lt_of_le V_lb_29.lt szq_r_37)
        have ne_b31_r_37 : b31 ≠ r_37 := Nat.ne_of_lt (Nat.lt_of_lt_of_le E_b31.lt szq_r_37)
        replace OLD := OLD.keep Kq37 all0
        replace E_b27 := E_b27.keep Kq37
        replace V_b28 := V_b28.keep Kq37 (by exact nin0)
        replace F_b27_coder := F_b27_coder.keep Kq37 (by exact nin0)
        replace F_b27_value := F_b27_value.keep Kq37 (by exact nin0)
        replace V_lb_29 := V_lb_29.keep Kq37 (by exact nin0)
        replace E_b31 := E_b31.keep Kq37
        replace F_b31_status := F_b31_status.keep Kq37 (by exact nin0)
        replace F_b31_text := F_b31_text.keep Kq37 (by exact nin0)
        replace Z0 := Nat.le_trans Z0 Kq37.1
        replace W0 := Nat.le_trans W0 Kq37.1
        clear Kq37
        have E_r_37 := nE37_r_37
        clear nE37_r_37
        have F_r_37_status := nF37_r_37_status
        clear nF37_r_37_status
        have hXN : ∃ LL, Stand p l e room_1 s m #[(.int p1), (.int p2), (.int p3), (.int p4)] below meth c T37 LL 6 12 ∧ Fr n0 LL := ⟨_, X37, NF⟩
        clear X37 NF
        obtain ⟨LL38, X37, NF⟩ := hXN
        show WP p.tables e below _ T37 (mkF m 147 #[.val (.int p1), .val (.int p2), .val (.int p3), .val (.int p4), .val (.int (p2 &&& (3 : Int32))), .val (.int sv), .val (.ref b27), .val (.ref b31), .val (.int (1 : Int32)), .unset] [(.ref r_37)])
        obtain ⟨cq39, kq39, q39a, q39b, q39c⟩ := isOf hZ e37 E_r_37
        obtain ⟨_, _, ⟨T39, L39, k39, n39⟩, -, X39, ⟨Lc39, hQ39, l39, y39, z39⟩, st39⟩ := X37.virtualBack hx (y := (⟨"com/example/deodar/deodar/protocol/Outcome", "isDone", "()Z"⟩ : MethodName)) (z := (⟨"com/example/deodar/deodar/protocol/Outcome", "isDone", "()Z"⟩ : MethodName)) hown (mvT hZ (w_38 hw)) (mvT hZ (w_39 hw)) (notFace_of_selects (args := #[]) (mvT hZ (w_41 hw))) (mvT hZ (w_41 hw)) (mvT hZ (w_40 hw)) (by decide) (backOf (W := 0) (rm6 l Z a0 hw [] r_37 (200 : Int32) h37 n0 Z0 F_r_37_status) hZ (w_42 hw) (w_24 hw) (by decide) (by decide)) q39a q39c (g := (mkF m 147 #[.val (.int p1), .val (.int p2), .val (.int p3), .val (.int p4), .val (.int (p2 &&& (3 : Int32))), .val (.int sv), .val (.ref b27), .val (.ref b31), .val (.int (1 : Int32)), .unset] [(.ref r_37)])) rfl (by rw [hml]; rfl) (Steps.refl _) (argsL := []) (rest := []) (lenOf pd_4 rfl) rfl (by show 2 * 0 + _ ≤ _; exact Nat.le_of_eq rfl) (hb hby at_147) (fun _ _ => ⟨rfl, e37, (by decide : 6 + 0 ≤ _), (by decide : 12 + 0 ≤ _)⟩)
        dsimp only [Pt.U, Pt.locs, Pt.cells, Pt.slots] at X39 l39 y39 z39 st39 hQ39
        subst l39 y39 z39
        obtain ⟨rfl, Nq39, Kq39⟩ := hQ39
        replace NF := Fr.app NF Nq39
        clear Nq39
        refine WP.tr st39 ?_
        clear st39
        replace Kq39 := Kq39.trans (rfl : h37 = h37)
        have hXN : ∃ LL, Stand p l e room_1 s m #[(.int p1), (.int p2), (.int p3), (.int p4)] below meth c T39 LL 6 12 ∧ Fr n0 LL := ⟨_, X39, NF⟩
        clear X39 NF
        obtain ⟨LL40, X39, NF⟩ := hXN
        show WP p.tables e below _ T39 (mkF m 150 #[.val (.int p1), .val (.int p2), .val (.int p3), .val (.int p4), .val (.int (p2 &&& (3 : Int32))), .val (.int sv), .val (.ref b27), .val (.ref b31), .val (.int (1 : Int32)), .unset] [(.int (if (200 : Int32) = (200 : Int32) then (1 : Int32) else (0 : Int32)))])
        rw [show (if (200 : Int32) = (200 : Int32) then (1 : Int32) else (0 : Int32)) = (1 : Int32) from if_pos rfl]
        show WP p.tables e below _ T39 (mkF m 150 #[.val (.int p1), .val (.int p2), .val (.int p3), .val (.int p4), .val (.int (p2 &&& (3 : Int32))), .val (.int sv), .val (.ref b27), .val (.ref b31), .val (.int (1 : Int32)), .unset] [(.int (1 : Int32))])
        refine WP.st (T' := T39) (f' := (mkF m 167 #[.val (.int p1), .val (.int p2), .val (.int p3), .val (.int p4), .val (.int (p2 &&& (3 : Int32))), .val (.int sv), .val (.ref b27), .val (.ref b31), .val (.int (1 : Int32)), .val (.int (1 : Int32))] [(.int (1 : Int32))])) (fun t k => ?_) ?_
        · refine XS.istore X39.here hx rfl (hb hby at_150) rfl (l' := #[.val (.int p1), .val (.int p2), .val (.int p3), .val (.int p4), .val (.int (p2 &&& (3 : Int32))), .val (.int sv), .val (.ref b27), .val (.ref b31), .val (.int (1 : Int32)), .val (.int (1 : Int32))]) rfl ?_
          show Steps p.tables e below (T39.setTop (mkF m 152 #[.val (.int p1), .val (.int p2), .val (.int p3), .val (.int p4), .val (.int (p2 &&& (3 : Int32))), .val (.int sv), .val (.ref b27), .val (.ref b31), .val (.int (1 : Int32)), .val (.int (1 : Int32))] [])) t
          refine XS.iload X39.here hx rfl (hb hby at_152) rfl ?_
          show Steps p.tables e below (T39.setTop (mkF m 154 #[.val (.int p1), .val (.int p2), .val (.int p3), .val (.int p4), .val (.int (p2 &&& (3 : Int32))), .val (.int sv), .val (.ref b27), .val (.ref b31), .val (.int (1 : Int32)), .val (.int (1 : Int32))] [(.int (1 : Int32))])) t
          refine XS.ifNo X39.here hx rfl (hb hby at_154) rfl ((if0 _ _).trans (feq (by decide : ¬ ((1 : Int32) = (0 : Int32)))).1) ?_
          show Steps p.tables e below (T39.setTop (mkF m 157 #[.val (.int p1), .val (.int p2), .val (.int p3), .val (.int p4), .val (.int (p2 &&& (3 : Int32))), .val (.int sv), .val (.ref b27), .val (.ref b31), .val (.int (1 : Int32)), .val (.int (1 : Int32))] [])) t
          refine XS.iload X39.here hx rfl (hb hby at_157) rfl ?_
          show Steps p.tables e below (T39.setTop (mkF m 159 #[.val (.int p1), .val (.int p2), .val (.int p3), .val (.int p4), .val (.int (p2 &&& (3 : Int32))), .val (.int sv), .val (.ref b27), .val (.ref b31), .val (.int (1 : Int32)), .val (.int (1 : Int32))] [(.int (1 : Int32))])) t
          refine XS.ifNo X39.here hx rfl (hb hby at_159) rfl ((if0 _ _).trans (feq (by decide : ¬ ((1 : Int32) = (0 : Int32)))).1) ?_
          show Steps p.tables e below (T39.setTop (mkF m 162 #[.val (.int p1), .val (.int p2), .val (.int p3), .val (.int p4), .val (.int (p2 &&& (3 : Int32))), .val (.int sv), .val (.ref b27), .val (.ref b31), .val (.int (1 : Int32)), .val (.int (1 : Int32))] [])) t
          refine XS.iconst X39.here hx rfl (hb hby at_162) ?_
          show Steps p.tables e below (T39.setTop (mkF m 163 #[.val (.int p1), .val (.int p2), .val (.int p3), .val (.int p4), .val (.int (p2 &&& (3 : Int32))), .val (.int sv), .val (.ref b27), .val (.ref b31), .val (.int (1 : Int32)), .val (.int (1 : Int32))] [(.int (1 : Int32))])) t
          refine XS.goto X39.here hx rfl (pc0 := 163) (pc' := 167) rfl (hb hby at_163) (by decide) (by decide) ?_
          exact k
        subst hG
        subst hsE
        obtain ⟨fs, hr, hrun, hended, hEW⟩ := X39.leaveW SI (Nat.le_trans W0 (Nat.le_of_eq (by rw [Kq39]))) (v := some (.int (1 : Int32))) (fun h => by rw [Bd.returns] at h; cases h)
        refine WP.fin ⟨_, _, ?_, hrun, hended, _, _, rfl, ?_, hEW.1, hEW.2.1, hEW.2.2.1, hEW.2.2.2.mono (by decide) (by decide)⟩
        · exact retN X39 hx (t := .boolean) Bd.returns (by simp) (hb hby at_167) hr
        · show Q0 Z p1 p2 p3 p4 gC h0 n0 _ T39.heap _ T39.vm
          rw [Kq39]
          exact ⟨rfl, NF⟩
      · skip
        rw [show (if sv = (200 : Int32) then (1 : Int32) else (0 : Int32)) = (0 : Int32) from if_neg hc36]
        show WP p.tables e below _ T34 (mkF m 119 #[.val (.int p1), .val (.int p2), .val (.int p3), .val (.int p4), .val (.int (p2 &&& (3 : Int32))), .val (.int sv), .val (.ref b27), .val (.ref b31), .unset, .unset] [(.int (0 : Int32))])
        refine WP.st (T' := T34) (f' := (mkF m 144 #[.val (.int p1), .val (.int p2), .val (.int p3), .val (.int p4), .val (.int (p2 &&& (3 : Int32))), .val (.int sv), .val (.ref b27), .val (.ref b31), .val (.int (1 : Int32)), .unset] [(.ref b27)])) (fun t k => ?_) ?_
        · refine XS.iload X34.here hx rfl (hb hby at_119) rfl ?_
          show Steps p.tables e below (T34.setTop (mkF m 121 #[.val (.int p1), .val (.int p2), .val (.int p3), .val (.int p4), .val (.int (p2 &&& (3 : Int32))), .val (.int sv), .val (.ref b27), .val (.ref b31), .unset, .unset] [(.int sv), (.int (0 : Int32))])) t
          refine XS.sipush X34.here hx rfl (hb hby at_121) ?_
          show Steps p.tables e below (T34.setTop (mkF m 124 #[.val (.int p1), .val (.int p2), .val (.int p3), .val (.int p4), .val (.int (p2 &&& (3 : Int32))), .val (.int sv), .val (.ref b27), .val (.ref b31), .unset, .unset] [(.int (200 : Int32)), (.int sv), (.int (0 : Int32))])) t
          refine XS.icmpYes X34.here hx rfl (pc0 := 124) (pc' := 131) rfl (hb hby at_124) rfl (feq hc36).2 (by decide) (by decide) ?_
          show Steps p.tables e below (T34.setTop (mkF m 131 #[.val (.int p1), .val (.int p2), .val (.int p3), .val (.int p4), .val (.int (p2 &&& (3 : Int32))), .val (.int sv), .val (.ref b27), .val (.ref b31), .unset, .unset] [(.int (0 : Int32))])) t
          refine XS.iconst X34.here hx rfl (hb hby at_131) ?_
          show Steps p.tables e below (T34.setTop (mkF m 132 #[.val (.int p1), .val (.int p2), .val (.int p3), .val (.int p4), .val (.int (p2 &&& (3 : Int32))), .val (.int sv), .val (.ref b27), .val (.ref b31), .unset, .unset] [(.int (0 : Int32)), (.int (0 : Int32))])) t
          refine XS.icmpNo X34.here hx rfl (hb hby at_132) rfl (teq (by decide : (0 : Int32) = (0 : Int32))).2 ?_
          show Steps p.tables e below (T34.setTop (mkF m 135 #[.val (.int p1), .val (.int p2), .val (.int p3), .val (.int p4), .val (.int (p2 &&& (3 : Int32))), .val (.int sv), .val (.ref b27), .val (.ref b31), .unset, .unset] [])) t
          refine XS.iconst X34.here hx rfl (hb hby at_135) ?_
          show Steps p.tables e below (T34.setTop (mkF m 136 #[.val (.int p1), .val (.int p2), .val (.int p3), .val (.int p4), .val (.int (p2 &&& (3 : Int32))), .val (.int sv), .val (.ref b27), .val (.ref b31), .unset, .unset] [(.int (1 : Int32))])) t
          refine XS.goto X34.here hx rfl (pc0 := 136) (pc' := 140) rfl (hb hby at_136) (by decide) (by decide) ?_
          show Steps p.tables e below (T34.setTop (mkF m 140 #[.val (.int p1), .val (.int p2), .val (.int p3), .val (.int p4), .val (.int (p2 &&& (3 : Int32))), .val (.int sv), .val (.ref b27), .val (.ref b31), .unset, .unset] [(.int (1 : Int32))])) t
          refine XS.istore X34.here hx rfl (hb hby at_140) rfl (l' := #[.val (.int p1), .val (.int p2), .val (.int p3), .val (.int p4), .val (.int (p2 &&& (3 : Int32))), .val (.int sv), .val (.ref b27), .val (.ref b31), .val (.int (1 : Int32)), .unset]) rfl ?_
          show Steps p.tables e below (T34.setTop (mkF m 142 #[.val (.int p1), .val (.int p2), .val (.int p3), .val (.int p4), .val (.int (p2 &&& (3 : Int32))), .val (.int sv), .val (.ref b27), .val (.ref b31), .val (.int (1 : Int32)), .unset] [])) t
          refine XS.aload X34.here hx rfl (hb hby at_142) rfl rfl ?_
          exact k
        obtain ⟨_, _, ⟨T41, L41, k41, n41⟩, -, X41, ⟨Lc41, hQ41, l41, y41, z41⟩, st41⟩ := Jvm.LawKit.callS X34 hx (y := (⟨"com/example/deodar/deodar/protocol/Outcome", "done", "(Ljava/lang/String;)Lcom/example/deodar/deodar/protocol/Outcome;"⟩ : MethodName)) hown (mvT hZ (w_43 hw)) (mvT hZ (w_44 hw)) (mvT hZ (w_24 hw)) (mvT hZ (w_45 hw)) (by decide) (backOf (W := 0) (rm7 l Z a0 hw [] (Value.ref b27) h32 n0 Z0 OLD (by first | rfl | assumption | decide | omega : (Value.ref b27).isRef = true)) hZ (w_45 hw) (w_24 hw) (by decide) (by decide)) (g := (mkF m 144 #[.val (.int p1), .val (.int p2), .val (.int p3), .val (.int p4), .val (.int (p2 &&& (3 : Int32))), .val (.int sv), .val (.ref b27), .val (.ref b31), .val (.int (1 : Int32)), .unset] [(.ref b27)])) rfl (by rw [hml]; rfl) (argsL := [(.ref b27)]) (rest := []) (lenOf pd_5 rfl) rfl (by show 2 * 0 + _ ≤ _; exact Nat.le_of_eq rfl) (hb hby at_144) (fun _ _ => ⟨rfl, Kq34, (by decide : 5 + 1 ≤ _), (by decide : 10 + 2 ≤ _)⟩)
        dsimp only [Pt.U, Pt.locs, Pt.cells, Pt.slots] at X41 l41 y41 z41 st41 hQ41
        subst l41 y41 z41
        obtain ⟨r_41, rfl, Nq41, Kq41, szq_r_41, nE41_r_41, nF41_r_41_status⟩ := hQ41
        replace NF := Fr.app NF Nq41
        clear Nq41
        refine WP.st st41 ?_
        clear st41
        obtain ⟨h41, e41⟩ : ∃ h, T41.heap = h := ⟨_, rfl⟩
        rw [e41] at Kq41 nE41_r_41 nF41_r_41_status
        have ne_b27_r_41 : b27 ≠ r_41 := Nat.ne_of_lt (Nat.lt_of_lt_of_le E_b27.lt szq_r_41)
        have ne_b28_r_41 : b28 ≠ r_41 := Nat.ne_of_lt (Nat.lt_of_lt_of_le V_b28.lt szq_r_41)
        have ne_lb_29_r_41 : lb_29 ≠ r_41 := Nat.ne_of_lt (Nat.lt_of_lt_of_le V_lb_29.lt szq_r_41)
        have ne_b31_r_41 : b31 ≠ r_41 := Nat.ne_of_lt (Nat.lt_of_lt_of_le E_b31.lt szq_r_41)
        replace OLD := OLD.keep Kq41 all0
        replace E_b27 := E_b27.keep Kq41
        replace V_b28 := V_b28.keep Kq41 (by exact nin0)
        replace F_b27_coder := F_b27_coder.keep Kq41 (by exact nin0)
        replace F_b27_value := F_b27_value.keep Kq41 (by exact nin0)
        replace V_lb_29 := V_lb_29.keep Kq41 (by exact nin0)
        replace E_b31 := E_b31.keep Kq41
        replace F_b31_status := F_b31_status.keep Kq41 (by exact nin0)
        replace F_b31_text := F_b31_text.keep Kq41 (by exact nin0)
        replace Z0 := Nat.le_trans Z0 Kq41.1
        replace W0 := Nat.le_trans W0 Kq41.1
        clear Kq41
        have E_r_41 := nE41_r_41
        clear nE41_r_41
        have F_r_41_status := nF41_r_41_status
        clear nF41_r_41_status
        have hXN : ∃ LL, Stand p l e room_1 s m #[(.int p1), (.int p2), (.int p3), (.int p4)] below meth c T41 LL 6 12 ∧ Fr n0 LL := ⟨_, X41, NF⟩
        clear X41 NF
        obtain ⟨LL42, X41, NF⟩ := hXN
        show WP p.tables e below _ T41 (mkF m 147 #[.val (.int p1), .val (.int p2), .val (.int p3), .val (.int p4), .val (.int (p2 &&& (3 : Int32))), .val (.int sv), .val (.ref b27), .val (.ref b31), .val (.int (1 : Int32)), .unset] [(.ref r_41)])
        obtain ⟨cq43, kq43, q43a, q43b, q43c⟩ := isOf hZ e41 E_r_41
        obtain ⟨_, _, ⟨T43, L43, k43, n43⟩, -, X43, ⟨Lc43, hQ43, l43, y43, z43⟩, st43⟩ := X41.virtualBack hx (y := (⟨"com/example/deodar/deodar/protocol/Outcome", "isDone", "()Z"⟩ : MethodName)) (z := (⟨"com/example/deodar/deodar/protocol/Outcome", "isDone", "()Z"⟩ : MethodName)) hown (mvT hZ (w_38 hw)) (mvT hZ (w_39 hw)) (notFace_of_selects (args := #[]) (mvT hZ (w_41 hw))) (mvT hZ (w_41 hw)) (mvT hZ (w_40 hw)) (by decide) (backOf (W := 0) (rm6 l Z a0 hw [] r_41 (200 : Int32) h41 n0 Z0 F_r_41_status) hZ (w_42 hw) (w_24 hw) (by decide) (by decide)) q43a q43c (g := (mkF m 147 #[.val (.int p1), .val (.int p2), .val (.int p3), .val (.int p4), .val (.int (p2 &&& (3 : Int32))), .val (.int sv), .val (.ref b27), .val (.ref b31), .val (.int (1 : Int32)), .unset] [(.ref r_41)])) rfl (by rw [hml]; rfl) (Steps.refl _) (argsL := []) (rest := []) (lenOf pd_4 rfl) rfl (by show 2 * 0 + _ ≤ _; exact Nat.le_of_eq rfl) (hb hby at_147) (fun _ _ => ⟨rfl, e41, (by decide : 6 + 0 ≤ _), (by decide : 12 + 0 ≤ _)⟩)
        dsimp only [Pt.U, Pt.locs, Pt.cells, Pt.slots] at X43 l43 y43 z43 st43 hQ43
        subst l43 y43 z43
        obtain ⟨rfl, Nq43, Kq43⟩ := hQ43
        replace NF := Fr.app NF Nq43
        clear Nq43
        refine WP.tr st43 ?_
        clear st43
        replace Kq43 := Kq43.trans (rfl : h41 = h41)
        have hXN : ∃ LL, Stand p l e room_1 s m #[(.int p1), (.int p2), (.int p3), (.int p4)] below meth c T43 LL 6 12 ∧ Fr n0 LL := ⟨_, X43, NF⟩
        clear X43 NF
        obtain ⟨LL44, X43, NF⟩ := hXN
        show WP p.tables e below _ T43 (mkF m 150 #[.val (.int p1), .val (.int p2), .val (.int p3), .val (.int p4), .val (.int (p2 &&& (3 : Int32))), .val (.int sv), .val (.ref b27), .val (.ref b31), .val (.int (1 : Int32)), .unset] [(.int (if (200 : Int32) = (200 : Int32) then (1 : Int32) else (0 : Int32)))])
        rw [show (if (200 : Int32) = (200 : Int32) then (1 : Int32) else (0 : Int32)) = (1 : Int32) from if_pos rfl]
        show WP p.tables e below _ T43 (mkF m 150 #[.val (.int p1), .val (.int p2), .val (.int p3), .val (.int p4), .val (.int (p2 &&& (3 : Int32))), .val (.int sv), .val (.ref b27), .val (.ref b31), .val (.int (1 : Int32)), .unset] [(.int (1 : Int32))])
        refine WP.st (T' := T43) (f' := (mkF m 167 #[.val (.int p1), .val (.int p2), .val (.int p3), .val (.int p4), .val (.int (p2 &&& (3 : Int32))), .val (.int sv), .val (.ref b27), .val (.ref b31), .val (.int (1 : Int32)), .val (.int (1 : Int32))] [(.int (1 : Int32))])) (fun t k => ?_) ?_
        · refine XS.istore X43.here hx rfl (hb hby at_150) rfl (l' := #[.val (.int p1), .val (.int p2), .val (.int p3), .val (.int p4), .val (.int (p2 &&& (3 : Int32))), .val (.int sv), .val (.ref b27), .val (.ref b31), .val (.int (1 : Int32)), .val (.int (1 : Int32))]) rfl ?_
          show Steps p.tables e below (T43.setTop (mkF m 152 #[.val (.int p1), .val (.int p2), .val (.int p3), .val (.int p4), .val (.int (p2 &&& (3 : Int32))), .val (.int sv), .val (.ref b27), .val (.ref b31), .val (.int (1 : Int32)), .val (.int (1 : Int32))] [])) t
          refine XS.iload X43.here hx rfl (hb hby at_152) rfl ?_
          show Steps p.tables e below (T43.setTop (mkF m 154 #[.val (.int p1), .val (.int p2), .val (.int p3), .val (.int p4), .val (.int (p2 &&& (3 : Int32))), .val (.int sv), .val (.ref b27), .val (.ref b31), .val (.int (1 : Int32)), .val (.int (1 : Int32))] [(.int (1 : Int32))])) t
          refine XS.ifNo X43.here hx rfl (hb hby at_154) rfl ((if0 _ _).trans (feq (by decide : ¬ ((1 : Int32) = (0 : Int32)))).1) ?_
          show Steps p.tables e below (T43.setTop (mkF m 157 #[.val (.int p1), .val (.int p2), .val (.int p3), .val (.int p4), .val (.int (p2 &&& (3 : Int32))), .val (.int sv), .val (.ref b27), .val (.ref b31), .val (.int (1 : Int32)), .val (.int (1 : Int32))] [])) t
          refine XS.iload X43.here hx rfl (hb hby at_157) rfl ?_
          show Steps p.tables e below (T43.setTop (mkF m 159 #[.val (.int p1), .val (.int p2), .val (.int p3), .val (.int p4), .val (.int (p2 &&& (3 : Int32))), .val (.int sv), .val (.ref b27), .val (.ref b31), .val (.int (1 : Int32)), .val (.int (1 : Int32))] [(.int (1 : Int32))])) t
          refine XS.ifNo X43.here hx rfl (hb hby at_159) rfl ((if0 _ _).trans (feq (by decide : ¬ ((1 : Int32) = (0 : Int32)))).1) ?_
          show Steps p.tables e below (T43.setTop (mkF m 162 #[.val (.int p1), .val (.int p2), .val (.int p3), .val (.int p4), .val (.int (p2 &&& (3 : Int32))), .val (.int sv), .val (.ref b27), .val (.ref b31), .val (.int (1 : Int32)), .val (.int (1 : Int32))] [])) t
          refine XS.iconst X43.here hx rfl (hb hby at_162) ?_
          show Steps p.tables e below (T43.setTop (mkF m 163 #[.val (.int p1), .val (.int p2), .val (.int p3), .val (.int p4), .val (.int (p2 &&& (3 : Int32))), .val (.int sv), .val (.ref b27), .val (.ref b31), .val (.int (1 : Int32)), .val (.int (1 : Int32))] [(.int (1 : Int32))])) t
          refine XS.goto X43.here hx rfl (pc0 := 163) (pc' := 167) rfl (hb hby at_163) (by decide) (by decide) ?_
          exact k
        subst hG
        subst hsE
        obtain ⟨fs, hr, hrun, hended, hEW⟩ := X43.leaveW SI (Nat.le_trans W0 (Nat.le_of_eq (by rw [Kq43]))) (v := some (.int (1 : Int32))) (fun h => by rw [Bd.returns] at h; cases h)
        refine WP.fin ⟨_, _, ?_, hrun, hended, _, _, rfl, ?_, hEW.1, hEW.2.1, hEW.2.2.1, hEW.2.2.2.mono (by decide) (by decide)⟩
        · exact retN X43 hx (t := .boolean) Bd.returns (by simp) (hb hby at_167) hr
        · show Q0 Z p1 p2 p3 p4 gC h0 n0 _ T43.heap _ T43.vm
          rw [Kq43]
          exact ⟨rfl, NF⟩
    · skip
      refine WP.st (T' := Tj25) (f' := (mkF m 66 #[.val (.int p1), .val (.int p2), .val (.int p3), .val (.int p4), .val (.int (p2 &&& (3 : Int32))), .val (.int sv), .unset, .unset, .unset, .unset] [(.int (2 : Int32))])) (fun t k => ?_) ?_
      · refine XS.ifYes X25.here hx rfl (pc0 := 47) (pc' := 65) rfl (hb hby at_47) rfl ((if0 _ _).trans (feq hc26).2) (by decide) (by decide) ?_
        show Steps p.tables e below (Tj25.setTop (mkF m 65 #[.val (.int p1), .val (.int p2), .val (.int p3), .val (.int p4), .val (.int (p2 &&& (3 : Int32))), .val (.int sv), .unset, .unset, .unset, .unset] [])) t
        refine XS.iconst X25.here hx rfl (hb hby at_65) ?_
        exact k
      obtain ⟨T45, h45, k45, X45, e45, E45, A45, st45⟩ := newP (aty := .char) X25 hx hZ (w_3 hw) ej25 (g := (mkF m 66 #[.val (.int p1), .val (.int p2), .val (.int p3), .val (.int p4), .val (.int (p2 &&& (3 : Int32))), .val (.int sv), .unset, .unset, .unset, .unset] [(.int (2 : Int32))])) rfl (hb hby at_66) rfl (by decide) (cap := 2) (by decide) (by decide) (by decide) (by decide)
      obtain ⟨b45, g45⟩ : ∃ z, z = h0.size := ⟨_, rfl⟩
      rw [← g45] at A45 st45
      refine WP.st st45 ?_
      clear st45
      have g_b45 : n0 ≤ b45 := Nat.le_trans Z0 (Nat.le_of_eq g45.symm)
      replace OLD := OLD.ext E45
      replace Z0 := Nat.le_trans Z0 E45.1
      replace W0 := Nat.le_trans W0 E45.1
      have V_b45 : Arv Z h45 b45 k45 .char (2 : Int32) [(.int (0 : Int32)), (.int (0 : Int32))] (.int (0 : Int32)) := (Arv.new A45 (by decide)).pad (pad_rep [] (.int (0 : Int32)) 2)
      show WP p.tables e below _ T45 (mkF m 68 #[.val (.int p1), .val (.int p2), .val (.int p3), .val (.int p4), .val (.int (p2 &&& (3 : Int32))), .val (.int sv), .unset, .unset, .unset, .unset] [(.ref b45)])
      refine WP.st (T' := T45) (f' := (mkF m 79 #[.val (.int p1), .val (.int p2), .val (.int p3), .val (.int p4), .val (.int (p2 &&& (3 : Int32))), .val (.int sv), .unset, .val (.ref b45), .unset, .unset] [(.int ((p3 &&& (255 : Int32)).toUInt32.toUInt16.toUInt32.toInt32)), (.int (0 : Int32)), (.ref b45)])) (fun t k => ?_) ?_
      · refine XS.astore X45.here hx rfl (hb hby at_68) rfl rfl (l' := #[.val (.int p1), .val (.int p2), .val (.int p3), .val (.int p4), .val (.int (p2 &&& (3 : Int32))), .val (.int sv), .unset, .val (.ref b45), .unset, .unset]) rfl ?_
        show Steps p.tables e below (T45.setTop (mkF m 70 #[.val (.int p1), .val (.int p2), .val (.int p3), .val (.int p4), .val (.int (p2 &&& (3 : Int32))), .val (.int sv), .unset, .val (.ref b45), .unset, .unset] [])) t
        refine XS.aload X45.here hx rfl (hb hby at_70) rfl rfl ?_
        show Steps p.tables e below (T45.setTop (mkF m 72 #[.val (.int p1), .val (.int p2), .val (.int p3), .val (.int p4), .val (.int (p2 &&& (3 : Int32))), .val (.int sv), .unset, .val (.ref b45), .unset, .unset] [(.ref b45)])) t
        refine XS.iconst X45.here hx rfl (hb hby at_72) ?_
        show Steps p.tables e below (T45.setTop (mkF m 73 #[.val (.int p1), .val (.int p2), .val (.int p3), .val (.int p4), .val (.int (p2 &&& (3 : Int32))), .val (.int sv), .unset, .val (.ref b45), .unset, .unset] [(.int (0 : Int32)), (.ref b45)])) t
        refine XS.iloadN X45.here hx rfl (hb hby at_73) rfl ?_
        show Steps p.tables e below (T45.setTop (mkF m 74 #[.val (.int p1), .val (.int p2), .val (.int p3), .val (.int p4), .val (.int (p2 &&& (3 : Int32))), .val (.int sv), .unset, .val (.ref b45), .unset, .unset] [(.int p3), (.int (0 : Int32)), (.ref b45)])) t
        refine XS.sipush X45.here hx rfl (hb hby at_74) ?_
        show Steps p.tables e below (T45.setTop (mkF m 77 #[.val (.int p1), .val (.int p2), .val (.int p3), .val (.int p4), .val (.int (p2 &&& (3 : Int32))), .val (.int sv), .unset, .val (.ref b45), .unset, .unset] [(.int (255 : Int32)), (.int p3), (.int (0 : Int32)), (.ref b45)])) t
        refine XS.iand X45.here hx rfl (hb hby at_77) rfl ?_
        show Steps p.tables e below (T45.setTop (mkF m 78 #[.val (.int p1), .val (.int p2), .val (.int p3), .val (.int p4), .val (.int (p2 &&& (3 : Int32))), .val (.int sv), .unset, .val (.ref b45), .unset, .unset] [(.int (p3 &&& (255 : Int32))), (.int (0 : Int32)), (.ref b45)])) t
        refine XS.i2c X45.here hx rfl (hb hby at_78) rfl ?_
        exact k
      obtain ⟨cl46, Ar46, q46, S46, N46, H46, G46⟩ := V_b45
      have hin46 : ¬ ((0 : Int32) < 0 ∨ cl46.slots.size ≤ ((0 : Int32)).toNatClampNeg) := inb_of S46 ⟨by decide, by decide⟩
      obtain ⟨T47, h47, X47, e47, W47, st47⟩ := stC X45 hx hZ e45 Ar46 (j := (0 : Int32)) hin46 (g := (mkF m 79 #[.val (.int p1), .val (.int p2), .val (.int p3), .val (.int p4), .val (.int (p2 &&& (3 : Int32))), .val (.int sv), .unset, .val (.ref b45), .unset, .unset] [(.int ((p3 &&& (255 : Int32)).toUInt32.toUInt16.toUInt32.toInt32)), (.int (0 : Int32)), (.ref b45)])) rfl rfl (hb hby at_79)
      refine WP.st st47 ?_
      clear st47
      have Vn : Arv Z h47 b45 k45 .char (2 : Int32) [(.int (nar .char ((p3 &&& (255 : Int32)).toUInt32.toUInt16.toUInt32.toInt32))), (.int (0 : Int32))] (.int (0 : Int32)) := Arv.set Ar46 q46 S46 N46 H46 G46 (fits_nar_char _) W47 0 rfl (Nat.le_of_ble_eq_true rfl)
      replace OLD := OLD.wr W47 g_b45
      replace Z0 := Nat.le_trans Z0 (Keep.of_wr W47).1
      replace W0 := Nat.le_trans W0 (Keep.of_wr W47).1
      replace V_b45 := Vn
      replace NF := Fr.snoc X47 NF g_b45
      clear W47 hin46 q46 S46 N46 H46 G46 Ar46
      have hXN : ∃ LL, Stand p l e room_1 s m #[(.int p1), (.int p2), (.int p3), (.int p4)] below meth c T47 LL 1 2 ∧ Fr n0 LL := ⟨_, X47, NF⟩
      clear X47 NF
      obtain ⟨LL48, X47, NF⟩ := hXN
      show WP p.tables e below _ T47 (mkF m 80 #[.val (.int p1), .val (.int p2), .val (.int p3), .val (.int p4), .val (.int (p2 &&& (3 : Int32))), .val (.int sv), .unset, .val (.ref b45), .unset, .unset] [])
      refine WP.st (T' := T47) (f' := (mkF m 89 #[.val (.int p1), .val (.int p2), .val (.int p3), .val (.int p4), .val (.int (p2 &&& (3 : Int32))), .val (.int sv), .unset, .val (.ref b45), .unset, .unset] [(.int ((p4 &&& (255 : Int32)).toUInt32.toUInt16.toUInt32.toInt32)), (.int (1 : Int32)), (.ref b45)])) (fun t k => ?_) ?_
      · refine XS.aload X47.here hx rfl (hb hby at_80) rfl rfl ?_
        show Steps p.tables e below (T47.setTop (mkF m 82 #[.val (.int p1), .val (.int p2), .val (.int p3), .val (.int p4), .val (.int (p2 &&& (3 : Int32))), .val (.int sv), .unset, .val (.ref b45), .unset, .unset] [(.ref b45)])) t
        refine XS.iconst X47.here hx rfl (hb hby at_82) ?_
        show Steps p.tables e below (T47.setTop (mkF m 83 #[.val (.int p1), .val (.int p2), .val (.int p3), .val (.int p4), .val (.int (p2 &&& (3 : Int32))), .val (.int sv), .unset, .val (.ref b45), .unset, .unset] [(.int (1 : Int32)), (.ref b45)])) t
        refine XS.iloadN X47.here hx rfl (hb hby at_83) rfl ?_
        show Steps p.tables e below (T47.setTop (mkF m 84 #[.val (.int p1), .val (.int p2), .val (.int p3), .val (.int p4), .val (.int (p2 &&& (3 : Int32))), .val (.int sv), .unset, .val (.ref b45), .unset, .unset] [(.int p4), (.int (1 : Int32)), (.ref b45)])) t
        refine XS.sipush X47.here hx rfl (hb hby at_84) ?_
        show Steps p.tables e below (T47.setTop (mkF m 87 #[.val (.int p1), .val (.int p2), .val (.int p3), .val (.int p4), .val (.int (p2 &&& (3 : Int32))), .val (.int sv), .unset, .val (.ref b45), .unset, .unset] [(.int (255 : Int32)), (.int p4), (.int (1 : Int32)), (.ref b45)])) t
        refine XS.iand X47.here hx rfl (hb hby at_87) rfl ?_
        show Steps p.tables e below (T47.setTop (mkF m 88 #[.val (.int p1), .val (.int p2), .val (.int p3), .val (.int p4), .val (.int (p2 &&& (3 : Int32))), .val (.int sv), .unset, .val (.ref b45), .unset, .unset] [(.int (p4 &&& (255 : Int32))), (.int (1 : Int32)), (.ref b45)])) t
        refine XS.i2c X47.here hx rfl (hb hby at_88) rfl ?_
        exact k
      obtain ⟨cl49, Ar49, q49, S49, N49, H49, G49⟩ := V_b45
      have hin49 : ¬ ((1 : Int32) < 0 ∨ cl49.slots.size ≤ ((1 : Int32)).toNatClampNeg) := inb_of S49 ⟨by decide, by decide⟩
      obtain ⟨T50, h50, X50, e50, W50, st50⟩ := stC X47 hx hZ e47 Ar49 (j := (1 : Int32)) hin49 (g := (mkF m 89 #[.val (.int p1), .val (.int p2), .val (.int p3), .val (.int p4), .val (.int (p2 &&& (3 : Int32))), .val (.int sv), .unset, .val (.ref b45), .unset, .unset] [(.int ((p4 &&& (255 : Int32)).toUInt32.toUInt16.toUInt32.toInt32)), (.int (1 : Int32)), (.ref b45)])) rfl rfl (hb hby at_89)
      refine WP.st st50 ?_
      clear st50
      have Vn : Arv Z h50 b45 k45 .char (2 : Int32) [(.int (nar .char ((p3 &&& (255 : Int32)).toUInt32.toUInt16.toUInt32.toInt32))), (.int (nar .char ((p4 &&& (255 : Int32)).toUInt32.toUInt16.toUInt32.toInt32)))] (.int (0 : Int32)) := Arv.set Ar49 q49 S49 N49 H49 G49 (fits_nar_char _) W50 1 rfl (Nat.le_of_ble_eq_true rfl)
      replace OLD := OLD.wr W50 g_b45
      replace Z0 := Nat.le_trans Z0 (Keep.of_wr W50).1
      replace W0 := Nat.le_trans W0 (Keep.of_wr W50).1
      replace V_b45 := Vn
      replace NF := Fr.snoc X50 NF g_b45
      clear W50 hin49 q49 S49 N49 H49 G49 Ar49
      have hXN : ∃ LL, Stand p l e room_1 s m #[(.int p1), (.int p2), (.int p3), (.int p4)] below meth c T50 LL 1 2 ∧ Fr n0 LL := ⟨_, X50, NF⟩
      clear X50 NF
      obtain ⟨LL51, X50, NF⟩ := hXN
      show WP p.tables e below _ T50 (mkF m 90 #[.val (.int p1), .val (.int p2), .val (.int p3), .val (.int p4), .val (.int (p2 &&& (3 : Int32))), .val (.int sv), .unset, .val (.ref b45), .unset, .unset] [])
      obtain ⟨T52, h52, X52, e52, E52, A52, D52, -, st52⟩ := newO X50 hx hZ hown (w_0 hw) (w_1 hw) (w_2 hw) e50 (g := (mkF m 90 #[.val (.int p1), .val (.int p2), .val (.int p3), .val (.int p4), .val (.int (p2 &&& (3 : Int32))), .val (.int sv), .unset, .val (.ref b45), .unset, .unset] [])) rfl (hb hby at_90) (by decide) (by decide)
      obtain ⟨b52, g52⟩ : ∃ z, z = h50.size := ⟨_, rfl⟩
      rw [← g52] at A52 D52 st52
      refine WP.st st52 ?_
      clear st52
      have ne_b45_b52 : b45 ≠ b52 := Nat.ne_of_lt (Nat.lt_of_lt_of_le V_b45.lt (Nat.le_of_eq g52.symm))
      have g_b52 : n0 ≤ b52 := Nat.le_trans Z0 (Nat.le_of_eq g52.symm)
      replace OLD := OLD.ext E52
      replace V_b45 := V_b45.ext E52
      replace Z0 := Nat.le_trans Z0 E52.1
      replace W0 := Nat.le_trans W0 E52.1
      have E_b52 := A52
      have F_b52_value : Fld Z h52 b52 "java/lang/String" "value" "[B" .null := D52 (Or.inr (w_16 hw)) (ty := (.array .byte)) (by decide)
      have F_b52_coder : Fld Z h52 b52 "java/lang/String" "coder" "B" (.int (0 : Int32)) := D52 (Or.inr (w_17 hw)) (ty := .byte) (by decide)
      clear D52 A52
      show WP p.tables e below _ T52 (mkF m 93 #[.val (.int p1), .val (.int p2), .val (.int p3), .val (.int p4), .val (.int (p2 &&& (3 : Int32))), .val (.int sv), .unset, .val (.ref b45), .unset, .unset] [(.ref b52)])
      refine WP.st (T' := T52) (f' := (mkF m 96 #[.val (.int p1), .val (.int p2), .val (.int p3), .val (.int p4), .val (.int (p2 &&& (3 : Int32))), .val (.int sv), .unset, .val (.ref b45), .unset, .unset] [(.ref b45), (.ref b52), (.ref b52)])) (fun t k => ?_) ?_
      · refine XS.dup X52.here hx rfl (hb hby at_93) rfl rfl ?_
        show Steps p.tables e below (T52.setTop (mkF m 94 #[.val (.int p1), .val (.int p2), .val (.int p3), .val (.int p4), .val (.int (p2 &&& (3 : Int32))), .val (.int sv), .unset, .val (.ref b45), .unset, .unset] [(.ref b52), (.ref b52)])) t
        refine XS.aload X52.here hx rfl (hb hby at_94) rfl rfl ?_
        exact k
      obtain ⟨_, _, ⟨T53, L53, k53, n53⟩, -, X53, ⟨Lc53, hQ53, l53, y53, z53⟩, st53⟩ := X52.specialBack hx (y := (⟨"java/lang/String", "<init>", "([C)V"⟩ : MethodName)) rfl hown (mvT hZ (w_4 hw)) (mvT hZ (w_5 hw)) (mvT hZ (w_6 hw)) (by decide) (StrChars.Road.backV (W := 1) hZ (own_ws hw) (kI := 4) (w_1 hw) (cs := ([(nar .char ((p3 &&& (255 : Int32)).toUInt32.toUInt16.toUInt32.toInt32)), (nar .char ((p4 &&& (255 : Int32)).toUInt32.toUInt16.toUInt32.toInt32))] : List Int32)) (bs := (([(nar .char ((p3 &&& (255 : Int32)).toUInt32.toUInt16.toUInt32.toInt32)), (nar .char ((p4 &&& (255 : Int32)).toUInt32.toUInt16.toUInt32.toInt32))] : List Int32).map (fun c => c.toInt8.toInt32))) (n := 2) g_b52 Z0 E_b52 F_b52_value F_b52_coder V_b45 (O2.ext OLD.2) hz rfl rfl (by decide) (by decide) (own_hp (by intro c hc; simp only [List.mem_cons, List.not_mem_nil, or_false] at hc; rcases hc with rfl | rfl <;> first | exact own_byte_nar (own_byte_and _) | exact own_byte_nar (own_byte_and _))) rfl (by decide) (by decide)) (g := (mkF m 96 #[.val (.int p1), .val (.int p2), .val (.int p3), .val (.int p4), .val (.int (p2 &&& (3 : Int32))), .val (.int sv), .unset, .val (.ref b45), .unset, .unset] [(.ref b45), (.ref b52), (.ref b52)])) rfl (by rw [hml]; rfl) (Steps.refl _) (a := b52) (argsL := [(.ref b45)]) (rest := [(.ref b52)]) (lenOf pd_3 rfl) rfl (by show 2 * 0 + _ ≤ _; exact Nat.le_of_eq rfl) (hb hby at_96) (fun _ _ => ⟨rfl, e52, (by decide : 2 + 1 ≤ _), (by decide : 6 + 2 ≤ _)⟩)
      dsimp only [Pt.U, Pt.locs, Pt.cells, Pt.slots] at X53 l53 y53 z53 st53 hQ53
      subst l53 y53 z53
      obtain ⟨rfl, Nq53, Kq53, nE53, nC53, tb53, kb53, g_tb53, szq_tb53, nx53, nV53, nA53⟩ := hQ53
      refine WP.tr st53 ?_
      clear st53
      replace NF := Fr.app NF Nq53
      obtain ⟨h53, e53⟩ : ∃ h, T53.heap = h := ⟨_, rfl⟩
      rw [e53] at Kq53 nE53 nC53 nV53 nA53
      have ne_b45_tb53 : b45 ≠ tb53 := Nat.ne_of_lt (Nat.lt_of_lt_of_le V_b45.lt szq_tb53)
      have ne_b52_tb53 : b52 ≠ tb53 := Nat.ne_of_lt (Nat.lt_of_lt_of_le E_b52.lt szq_tb53)
      replace OLD := OLD.keep Kq53 (allS g_b52 all0)
      replace V_b45 := V_b45.keep Kq53 (by exact ninS ne_b45_b52 (nin0))
      replace E_b52 := E_b52.keep Kq53
      clear F_b52_value
      clear F_b52_coder
      replace Z0 := Nat.le_trans Z0 Kq53.1
      replace W0 := Nat.le_trans W0 Kq53.1
      clear E_b52
      have E_b52 := nE53
      clear nE53
      have F_b52_coder := nC53
      clear nC53
      have F_b52_value := nV53
      clear nV53
      have V_tb53 := nA53
      clear nA53 Kq53
      have hXN : ∃ LL, Stand p l e room_1 s m #[(.int p1), (.int p2), (.int p3), (.int p4)] below meth c T53 LL 3 8 ∧ Fr n0 LL := ⟨_, X53, NF⟩
      clear X53 NF
      obtain ⟨LL54, X53, NF⟩ := hXN
      show WP p.tables e below _ T53 (mkF m 99 #[.val (.int p1), .val (.int p2), .val (.int p3), .val (.int p4), .val (.int (p2 &&& (3 : Int32))), .val (.int sv), .unset, .val (.ref b45), .unset, .unset] [(.ref b52)])
      refine WP.st (T' := T53) (f' := (mkF m 101 #[.val (.int p1), .val (.int p2), .val (.int p3), .val (.int p4), .val (.int (p2 &&& (3 : Int32))), .val (.int sv), .val (.ref b52), .val (.ref b45), .unset, .unset] [])) (fun t k => ?_) ?_
      · refine XS.astore X53.here hx rfl (hb hby at_99) rfl rfl (l' := #[.val (.int p1), .val (.int p2), .val (.int p3), .val (.int p4), .val (.int (p2 &&& (3 : Int32))), .val (.int sv), .val (.ref b52), .val (.ref b45), .unset, .unset]) rfl ?_
        exact k
      obtain ⟨T55, h55, X55, e55, E55, A55, D55, -, st55⟩ := newO X53 hx hZ hown (w_22 hw) (w_23 hw) (w_24 hw) e53 (g := (mkF m 101 #[.val (.int p1), .val (.int p2), .val (.int p3), .val (.int p4), .val (.int (p2 &&& (3 : Int32))), .val (.int sv), .val (.ref b52), .val (.ref b45), .unset, .unset] [])) rfl (hb hby at_101) (by decide) (by decide)
      obtain ⟨b55, g55⟩ : ∃ z, z = h53.size := ⟨_, rfl⟩
      rw [← g55] at A55 D55 st55
      refine WP.st st55 ?_
      clear st55
      have ne_b45_b55 : b45 ≠ b55 := Nat.ne_of_lt (Nat.lt_of_lt_of_le V_b45.lt (Nat.le_of_eq g55.symm))
      have ne_b52_b55 : b52 ≠ b55 := Nat.ne_of_lt (Nat.lt_of_lt_of_le E_b52.lt (Nat.le_of_eq g55.symm))
      have ne_tb53_b55 : tb53 ≠ b55 := Nat.ne_of_lt (Nat.lt_of_lt_of_le V_tb53.lt (Nat.le_of_eq g55.symm))
      have g_b55 : n0 ≤ b55 := Nat.le_trans Z0 (Nat.le_of_eq g55.symm)
      replace OLD := OLD.ext E55
      replace V_b45 := V_b45.ext E55
      replace E_b52 := E_b52.ext E55
      replace F_b52_coder := F_b52_coder.ext E55
      replace F_b52_value := F_b52_value.ext E55
      replace V_tb53 := V_tb53.ext E55
      replace Z0 := Nat.le_trans Z0 E55.1
      replace W0 := Nat.le_trans W0 E55.1
      have E_b55 := A55
      have F_b55_status : Fld Z h55 b55 "com/example/deodar/deodar/protocol/Outcome" "status" "I" (.int (0 : Int32)) := D55 (Or.inr (w_35 hw)) (ty := .int) (by decide)
      have F_b55_text : Fld Z h55 b55 "com/example/deodar/deodar/protocol/Outcome" "text" "Ljava/lang/String;" .null := D55 (Or.inr (w_37 hw)) (ty := (.object "java/lang/String")) (by decide)
      clear D55 A55
      show WP p.tables e below _ T55 (mkF m 104 #[.val (.int p1), .val (.int p2), .val (.int p3), .val (.int p4), .val (.int (p2 &&& (3 : Int32))), .val (.int sv), .val (.ref b52), .val (.ref b45), .unset, .unset] [(.ref b55)])
      refine WP.st (T' := T55) (f' := (mkF m 109 #[.val (.int p1), .val (.int p2), .val (.int p3), .val (.int p4), .val (.int (p2 &&& (3 : Int32))), .val (.int sv), .val (.ref b52), .val (.ref b45), .unset, .unset] [(.ref b52), (.int sv), (.ref b55), (.ref b55)])) (fun t k => ?_) ?_
      · refine XS.dup X55.here hx rfl (hb hby at_104) rfl rfl ?_
        show Steps p.tables e below (T55.setTop (mkF m 105 #[.val (.int p1), .val (.int p2), .val (.int p3), .val (.int p4), .val (.int (p2 &&& (3 : Int32))), .val (.int sv), .val (.ref b52), .val (.ref b45), .unset, .unset] [(.ref b55), (.ref b55)])) t
        refine XS.iload X55.here hx rfl (hb hby at_105) rfl ?_
        show Steps p.tables e below (T55.setTop (mkF m 107 #[.val (.int p1), .val (.int p2), .val (.int p3), .val (.int p4), .val (.int (p2 &&& (3 : Int32))), .val (.int sv), .val (.ref b52), .val (.ref b45), .unset, .unset] [(.int sv), (.ref b55), (.ref b55)])) t
        refine XS.aload X55.here hx rfl (hb hby at_107) rfl rfl ?_
        exact k
      obtain ⟨_, _, ⟨T56, L56, k56, n56⟩, -, X56, ⟨Lc56, hQ56, l56, y56, z56⟩, st56⟩ := X55.specialBack hx (y := (⟨"com/example/deodar/deodar/protocol/Outcome", "<init>", "(ILjava/lang/String;)V"⟩ : MethodName)) rfl hown (mvT hZ (w_25 hw)) (mvT hZ (w_26 hw)) (mvT hZ (w_27 hw)) (by decide) (backOf (W := 1) (rm4 l Z a0 hw [] b55 sv (Value.ref b52) (0 : Int32) Value.null h55 n0 Z0 E_b55 g_b55 F_b55_status F_b55_text (by first | rfl | assumption | decide | omega : (Value.ref b52).isRef = true)) hZ (w_27 hw) (w_24 hw) (by decide) (by decide)) (g := (mkF m 109 #[.val (.int p1), .val (.int p2), .val (.int p3), .val (.int p4), .val (.int (p2 &&& (3 : Int32))), .val (.int sv), .val (.ref b52), .val (.ref b45), .unset, .unset] [(.ref b52), (.int sv), (.ref b55), (.ref b55)])) rfl (by rw [hml]; rfl) (Steps.refl _) (a := b55) (argsL := [(.int sv), (.ref b52)]) (rest := [(.ref b55)]) (lenOf pd_2 rfl) rfl (by show 2 * 0 + _ ≤ _; exact Nat.le_of_eq rfl) (hb hby at_109) (fun _ _ => ⟨rfl, e55, (by decide : 4 + 0 ≤ _), (by decide : 10 + 0 ≤ _)⟩)
      dsimp only [Pt.U, Pt.locs, Pt.cells, Pt.slots] at X56 l56 y56 z56 st56 hQ56
      subst l56 y56 z56
      obtain ⟨rfl, Nq56, Kq56, nF56_b55_status, nF56_b55_text⟩ := hQ56
      replace NF := Fr.app NF Nq56
      clear Nq56
      refine WP.tr st56 ?_
      clear st56
      obtain ⟨h56, e56⟩ : ∃ h, T56.heap = h := ⟨_, rfl⟩
      rw [e56] at Kq56 nF56_b55_status nF56_b55_text
      replace OLD := OLD.keep Kq56 (allS g_b55 all0)
      replace V_b45 := V_b45.keep Kq56 (by exact ninS ne_b45_b55 (nin0))
      replace E_b52 := E_b52.keep Kq56
      replace F_b52_coder := F_b52_coder.keep Kq56 (by exact ninS ne_b52_b55 (nin0))
      replace F_b52_value := F_b52_value.keep Kq56 (by exact ninS ne_b52_b55 (nin0))
      replace V_tb53 := V_tb53.keep Kq56 (by exact ninS ne_tb53_b55 (nin0))
      replace E_b55 := E_b55.keep Kq56
      clear F_b55_status
      clear F_b55_text
      replace Z0 := Nat.le_trans Z0 Kq56.1
      replace W0 := Nat.le_trans W0 Kq56.1
      clear Kq56
      have F_b55_status := nF56_b55_status
      clear nF56_b55_status
      have F_b55_text := nF56_b55_text
      clear nF56_b55_text
      have hXN : ∃ LL, Stand p l e room_1 s m #[(.int p1), (.int p2), (.int p3), (.int p4)] below meth c T56 LL 4 10 ∧ Fr n0 LL := ⟨_, X56, NF⟩
      clear X56 NF
      obtain ⟨LL57, X56, NF⟩ := hXN
      show WP p.tables e below _ T56 (mkF m 112 #[.val (.int p1), .val (.int p2), .val (.int p3), .val (.int p4), .val (.int (p2 &&& (3 : Int32))), .val (.int sv), .val (.ref b52), .val (.ref b45), .unset, .unset] [(.ref b55)])
      refine WP.st (T' := T56) (f' := (mkF m 116 #[.val (.int p1), .val (.int p2), .val (.int p3), .val (.int p4), .val (.int (p2 &&& (3 : Int32))), .val (.int sv), .val (.ref b52), .val (.ref b55), .unset, .unset] [(.ref b55)])) (fun t k => ?_) ?_
      · refine XS.astore X56.here hx rfl (hb hby at_112) rfl rfl (l' := #[.val (.int p1), .val (.int p2), .val (.int p3), .val (.int p4), .val (.int (p2 &&& (3 : Int32))), .val (.int sv), .val (.ref b52), .val (.ref b55), .unset, .unset]) rfl ?_
        show Steps p.tables e below (T56.setTop (mkF m 114 #[.val (.int p1), .val (.int p2), .val (.int p3), .val (.int p4), .val (.int (p2 &&& (3 : Int32))), .val (.int sv), .val (.ref b52), .val (.ref b55), .unset, .unset] [])) t
        refine XS.aload X56.here hx rfl (hb hby at_114) rfl rfl ?_
        exact k
      obtain ⟨cq58, kq58, q58a, q58b, q58c⟩ := isOf hZ e56 E_b55
      obtain ⟨_, _, ⟨T58, L58, k58, n58⟩, -, X58, ⟨Lc58, hQ58, l58, y58, z58⟩, st58⟩ := X56.virtualBack hx (y := (⟨"com/example/deodar/deodar/protocol/Outcome", "isDone", "()Z"⟩ : MethodName)) (z := (⟨"com/example/deodar/deodar/protocol/Outcome", "isDone", "()Z"⟩ : MethodName)) hown (mvT hZ (w_38 hw)) (mvT hZ (w_39 hw)) (notFace_of_selects (args := #[]) (mvT hZ (w_41 hw))) (mvT hZ (w_41 hw)) (mvT hZ (w_40 hw)) (by decide) (backOf (W := 0) (rm6 l Z a0 hw [] b55 sv h56 n0 Z0 F_b55_status) hZ (w_42 hw) (w_24 hw) (by decide) (by decide)) q58a q58c (g := (mkF m 116 #[.val (.int p1), .val (.int p2), .val (.int p3), .val (.int p4), .val (.int (p2 &&& (3 : Int32))), .val (.int sv), .val (.ref b52), .val (.ref b55), .unset, .unset] [(.ref b55)])) rfl (by rw [hml]; rfl) (Steps.refl _) (argsL := []) (rest := []) (lenOf pd_4 rfl) rfl (by show 2 * 0 + _ ≤ _; exact Nat.le_of_eq rfl) (hb hby at_116) (fun _ _ => ⟨rfl, e56, (by decide : 4 + 0 ≤ _), (by decide : 10 + 0 ≤ _)⟩)
      dsimp only [Pt.U, Pt.locs, Pt.cells, Pt.slots] at X58 l58 y58 z58 st58 hQ58
      subst l58 y58 z58
      obtain ⟨rfl, Nq58, Kq58⟩ := hQ58
      replace NF := Fr.app NF Nq58
      clear Nq58
      refine WP.tr st58 ?_
      clear st58
      replace Kq58 := Kq58.trans (rfl : h56 = h56)
      have hXN : ∃ LL, Stand p l e room_1 s m #[(.int p1), (.int p2), (.int p3), (.int p4)] below meth c T58 LL 4 10 ∧ Fr n0 LL := ⟨_, X58, NF⟩
      clear X58 NF
      obtain ⟨LL59, X58, NF⟩ := hXN
      show WP p.tables e below _ T58 (mkF m 119 #[.val (.int p1), .val (.int p2), .val (.int p3), .val (.int p4), .val (.int (p2 &&& (3 : Int32))), .val (.int sv), .val (.ref b52), .val (.ref b55), .unset, .unset] [(.int (if sv = (200 : Int32) then (1 : Int32) else (0 : Int32)))])
      by_cases hc60 : sv = (200 : Int32)
      · skip
        rw [show (if sv = (200 : Int32) then (1 : Int32) else (0 : Int32)) = (1 : Int32) from if_pos hc60]
        show WP p.tables e below _ T58 (mkF m 119 #[.val (.int p1), .val (.int p2), .val (.int p3), .val (.int p4), .val (.int (p2 &&& (3 : Int32))), .val (.int sv), .val (.ref b52), .val (.ref b55), .unset, .unset] [(.int (1 : Int32))])
        refine WP.st (T' := T58) (f' := (mkF m 144 #[.val (.int p1), .val (.int p2), .val (.int p3), .val (.int p4), .val (.int (p2 &&& (3 : Int32))), .val (.int sv), .val (.ref b52), .val (.ref b55), .val (.int (1 : Int32)), .unset] [(.ref b52)])) (fun t k => ?_) ?_
        · refine XS.iload X58.here hx rfl (hb hby at_119) rfl ?_
          show Steps p.tables e below (T58.setTop (mkF m 121 #[.val (.int p1), .val (.int p2), .val (.int p3), .val (.int p4), .val (.int (p2 &&& (3 : Int32))), .val (.int sv), .val (.ref b52), .val (.ref b55), .unset, .unset] [(.int sv), (.int (1 : Int32))])) t
          refine XS.sipush X58.here hx rfl (hb hby at_121) ?_
          show Steps p.tables e below (T58.setTop (mkF m 124 #[.val (.int p1), .val (.int p2), .val (.int p3), .val (.int p4), .val (.int (p2 &&& (3 : Int32))), .val (.int sv), .val (.ref b52), .val (.ref b55), .unset, .unset] [(.int (200 : Int32)), (.int sv), (.int (1 : Int32))])) t
          refine XS.icmpNo X58.here hx rfl (hb hby at_124) rfl (teq hc60).2 ?_
          show Steps p.tables e below (T58.setTop (mkF m 127 #[.val (.int p1), .val (.int p2), .val (.int p3), .val (.int p4), .val (.int (p2 &&& (3 : Int32))), .val (.int sv), .val (.ref b52), .val (.ref b55), .unset, .unset] [(.int (1 : Int32))])) t
          refine XS.iconst X58.here hx rfl (hb hby at_127) ?_
          show Steps p.tables e below (T58.setTop (mkF m 128 #[.val (.int p1), .val (.int p2), .val (.int p3), .val (.int p4), .val (.int (p2 &&& (3 : Int32))), .val (.int sv), .val (.ref b52), .val (.ref b55), .unset, .unset] [(.int (1 : Int32)), (.int (1 : Int32))])) t
          refine XS.goto X58.here hx rfl (pc0 := 128) (pc' := 132) rfl (hb hby at_128) (by decide) (by decide) ?_
          show Steps p.tables e below (T58.setTop (mkF m 132 #[.val (.int p1), .val (.int p2), .val (.int p3), .val (.int p4), .val (.int (p2 &&& (3 : Int32))), .val (.int sv), .val (.ref b52), .val (.ref b55), .unset, .unset] [(.int (1 : Int32)), (.int (1 : Int32))])) t
          refine XS.icmpNo X58.here hx rfl (hb hby at_132) rfl (teq (by decide : (1 : Int32) = (1 : Int32))).2 ?_
          show Steps p.tables e below (T58.setTop (mkF m 135 #[.val (.int p1), .val (.int p2), .val (.int p3), .val (.int p4), .val (.int (p2 &&& (3 : Int32))), .val (.int sv), .val (.ref b52), .val (.ref b55), .unset, .unset] [])) t
          refine XS.iconst X58.here hx rfl (hb hby at_135) ?_
          show Steps p.tables e below (T58.setTop (mkF m 136 #[.val (.int p1), .val (.int p2), .val (.int p3), .val (.int p4), .val (.int (p2 &&& (3 : Int32))), .val (.int sv), .val (.ref b52), .val (.ref b55), .unset, .unset] [(.int (1 : Int32))])) t
          refine XS.goto X58.here hx rfl (pc0 := 136) (pc' := 140) rfl (hb hby at_136) (by decide) (by decide) ?_
          show Steps p.tables e below (T58.setTop (mkF m 140 #[.val (.int p1), .val (.int p2), .val (.int p3), .val (.int p4), .val (.int (p2 &&& (3 : Int32))), .val (.int sv), .val (.ref b52), .val (.ref b55), .unset, .unset] [(.int (1 : Int32))])) t
          refine XS.istore X58.here hx rfl (hb hby at_140) rfl (l' := #[.val (.int p1), .val (.int p2), .val (.int p3), .val (.int p4), .val (.int (p2 &&& (3 : Int32))), .val (.int sv), .val (.ref b52), .val (.ref b55), .val (.int (1 : Int32)), .unset]) rfl ?_
          show Steps p.tables e below (T58.setTop (mkF m 142 #[.val (.int p1), .val (.int p2), .val (.int p3), .val (.int p4), .val (.int (p2 &&& (3 : Int32))), .val (.int sv), .val (.ref b52), .val (.ref b55), .val (.int (1 : Int32)), .unset] [])) t
          refine XS.aload X58.here hx rfl (hb hby at_142) rfl rfl ?_
          exact k
        obtain ⟨_, _, ⟨T61, L61, k61, n61⟩, -, X61, ⟨Lc61, hQ61, l61, y61, z61⟩, st61⟩ := Jvm.LawKit.callS X58 hx (y := (⟨"com/example/deodar/deodar/protocol/Outcome", "done", "(Ljava/lang/String;)Lcom/example/deodar/deodar/protocol/Outcome;"⟩ : MethodName)) hown (mvT hZ (w_43 hw)) (mvT hZ (w_44 hw)) (mvT hZ (w_24 hw)) (mvT hZ (w_45 hw)) (by decide) (backOf (W := 0) (rm7 l Z a0 hw [] (Value.ref b52) h56 n0 Z0 OLD (by first | rfl | assumption | decide | omega : (Value.ref b52).isRef = true)) hZ (w_45 hw) (w_24 hw) (by decide) (by decide)) (g := (mkF m 144 #[.val (.int p1), .val (.int p2), .val (.int p3), .val (.int p4), .val (.int (p2 &&& (3 : Int32))), .val (.int sv), .val (.ref b52), .val (.ref b55), .val (.int (1 : Int32)), .unset] [(.ref b52)])) rfl (by rw [hml]; rfl) (argsL := [(.ref b52)]) (rest := []) (lenOf pd_5 rfl) rfl (by show 2 * 0 + _ ≤ _; exact Nat.le_of_eq rfl) (hb hby at_144) (fun _ _ => ⟨rfl, Kq58, (by decide : 4 + 1 ≤ _), (by decide : 10 + 2 ≤ _)⟩)
        dsimp only [Pt.U, Pt.locs, Pt.cells, Pt.slots] at X61 l61 y61 z61 st61 hQ61
        subst l61 y61 z61
        obtain ⟨r_61, rfl, Nq61, Kq61, szq_r_61, nE61_r_61, nF61_r_61_status⟩ := hQ61
        replace NF := Fr.app NF Nq61
        clear Nq61
        refine WP.st st61 ?_
        clear st61
        obtain ⟨h61, e61⟩ : ∃ h, T61.heap = h := ⟨_, rfl⟩
        rw [e61] at Kq61 nE61_r_61 nF61_r_61_status
        have ne_b45_r_61 : b45 ≠ r_61 := Nat.ne_of_lt (Nat.lt_of_lt_of_le V_b45.lt szq_r_61)
        have ne_b52_r_61 : b52 ≠ r_61 := Nat.ne_of_lt (Nat.lt_of_lt_of_le E_b52.lt szq_r_61)
        have ne_tb53_r_61 : tb53 ≠ r_61 := Nat.ne_of_lt (Nat.lt_of_lt_of_le V_tb53.lt szq_r_61)
        have ne_b55_r_61 : b55 ≠ r_61 := Nat.ne_of_lt (Nat.lt_of_lt_of_le E_b55.lt szq_r_61)
        replace OLD := OLD.keep Kq61 all0
        replace V_b45 := V_b45.keep Kq61 (by exact nin0)
        replace E_b52 := E_b52.keep Kq61
        replace F_b52_coder := F_b52_coder.keep Kq61 (by exact nin0)
        replace F_b52_value := F_b52_value.keep Kq61 (by exact nin0)
        replace V_tb53 := V_tb53.keep Kq61 (by exact nin0)
        replace E_b55 := E_b55.keep Kq61
        replace F_b55_status := F_b55_status.keep Kq61 (by exact nin0)
        replace F_b55_text := F_b55_text.keep Kq61 (by exact nin0)
        replace Z0 := Nat.le_trans Z0 Kq61.1
        replace W0 := Nat.le_trans W0 Kq61.1
        clear Kq61
        have E_r_61 := nE61_r_61
        clear nE61_r_61
        have F_r_61_status := nF61_r_61_status
        clear nF61_r_61_status
        have hXN : ∃ LL, Stand p l e room_1 s m #[(.int p1), (.int p2), (.int p3), (.int p4)] below meth c T61 LL 5 12 ∧ Fr n0 LL := ⟨_, X61, NF⟩
        clear X61 NF
        obtain ⟨LL62, X61, NF⟩ := hXN
        show WP p.tables e below _ T61 (mkF m 147 #[.val (.int p1), .val (.int p2), .val (.int p3), .val (.int p4), .val (.int (p2 &&& (3 : Int32))), .val (.int sv), .val (.ref b52), .val (.ref b55), .val (.int (1 : Int32)), .unset] [(.ref r_61)])
        obtain ⟨cq63, kq63, q63a, q63b, q63c⟩ := isOf hZ e61 E_r_61
        obtain ⟨_, _, ⟨T63, L63, k63, n63⟩, -, X63, ⟨Lc63, hQ63, l63, y63, z63⟩, st63⟩ := X61.virtualBack hx (y := (⟨"com/example/deodar/deodar/protocol/Outcome", "isDone", "()Z"⟩ : MethodName)) (z := (⟨"com/example/deodar/deodar/protocol/Outcome", "isDone", "()Z"⟩ : MethodName)) hown (mvT hZ (w_38 hw)) (mvT hZ (w_39 hw)) (notFace_of_selects (args := #[]) (mvT hZ (w_41 hw))) (mvT hZ (w_41 hw)) (mvT hZ (w_40 hw)) (by decide) (backOf (W := 0) (rm6 l Z a0 hw [] r_61 (200 : Int32) h61 n0 Z0 F_r_61_status) hZ (w_42 hw) (w_24 hw) (by decide) (by decide)) q63a q63c (g := (mkF m 147 #[.val (.int p1), .val (.int p2), .val (.int p3), .val (.int p4), .val (.int (p2 &&& (3 : Int32))), .val (.int sv), .val (.ref b52), .val (.ref b55), .val (.int (1 : Int32)), .unset] [(.ref r_61)])) rfl (by rw [hml]; rfl) (Steps.refl _) (argsL := []) (rest := []) (lenOf pd_4 rfl) rfl (by show 2 * 0 + _ ≤ _; exact Nat.le_of_eq rfl) (hb hby at_147) (fun _ _ => ⟨rfl, e61, (by decide : 5 + 0 ≤ _), (by decide : 12 + 0 ≤ _)⟩)
        dsimp only [Pt.U, Pt.locs, Pt.cells, Pt.slots] at X63 l63 y63 z63 st63 hQ63
        subst l63 y63 z63
        obtain ⟨rfl, Nq63, Kq63⟩ := hQ63
        replace NF := Fr.app NF Nq63
        clear Nq63
        refine WP.tr st63 ?_
        clear st63
        replace Kq63 := Kq63.trans (rfl : h61 = h61)
        have hXN : ∃ LL, Stand p l e room_1 s m #[(.int p1), (.int p2), (.int p3), (.int p4)] below meth c T63 LL 5 12 ∧ Fr n0 LL := ⟨_, X63, NF⟩
        clear X63 NF
        obtain ⟨LL64, X63, NF⟩ := hXN
        show WP p.tables e below _ T63 (mkF m 150 #[.val (.int p1), .val (.int p2), .val (.int p3), .val (.int p4), .val (.int (p2 &&& (3 : Int32))), .val (.int sv), .val (.ref b52), .val (.ref b55), .val (.int (1 : Int32)), .unset] [(.int (if (200 : Int32) = (200 : Int32) then (1 : Int32) else (0 : Int32)))])
        rw [show (if (200 : Int32) = (200 : Int32) then (1 : Int32) else (0 : Int32)) = (1 : Int32) from if_pos rfl]
        show WP p.tables e below _ T63 (mkF m 150 #[.val (.int p1), .val (.int p2), .val (.int p3), .val (.int p4), .val (.int (p2 &&& (3 : Int32))), .val (.int sv), .val (.ref b52), .val (.ref b55), .val (.int (1 : Int32)), .unset] [(.int (1 : Int32))])
        refine WP.st (T' := T63) (f' := (mkF m 167 #[.val (.int p1), .val (.int p2), .val (.int p3), .val (.int p4), .val (.int (p2 &&& (3 : Int32))), .val (.int sv), .val (.ref b52), .val (.ref b55), .val (.int (1 : Int32)), .val (.int (1 : Int32))] [(.int (1 : Int32))])) (fun t k => ?_) ?_
        · refine XS.istore X63.here hx rfl (hb hby at_150) rfl (l' := #[.val (.int p1), .val (.int p2), .val (.int p3), .val (.int p4), .val (.int (p2 &&& (3 : Int32))), .val (.int sv), .val (.ref b52), .val (.ref b55), .val (.int (1 : Int32)), .val (.int (1 : Int32))]) rfl ?_
          show Steps p.tables e below (T63.setTop (mkF m 152 #[.val (.int p1), .val (.int p2), .val (.int p3), .val (.int p4), .val (.int (p2 &&& (3 : Int32))), .val (.int sv), .val (.ref b52), .val (.ref b55), .val (.int (1 : Int32)), .val (.int (1 : Int32))] [])) t
          refine XS.iload X63.here hx rfl (hb hby at_152) rfl ?_
          show Steps p.tables e below (T63.setTop (mkF m 154 #[.val (.int p1), .val (.int p2), .val (.int p3), .val (.int p4), .val (.int (p2 &&& (3 : Int32))), .val (.int sv), .val (.ref b52), .val (.ref b55), .val (.int (1 : Int32)), .val (.int (1 : Int32))] [(.int (1 : Int32))])) t
          refine XS.ifNo X63.here hx rfl (hb hby at_154) rfl ((if0 _ _).trans (feq (by decide : ¬ ((1 : Int32) = (0 : Int32)))).1) ?_
          show Steps p.tables e below (T63.setTop (mkF m 157 #[.val (.int p1), .val (.int p2), .val (.int p3), .val (.int p4), .val (.int (p2 &&& (3 : Int32))), .val (.int sv), .val (.ref b52), .val (.ref b55), .val (.int (1 : Int32)), .val (.int (1 : Int32))] [])) t
          refine XS.iload X63.here hx rfl (hb hby at_157) rfl ?_
          show Steps p.tables e below (T63.setTop (mkF m 159 #[.val (.int p1), .val (.int p2), .val (.int p3), .val (.int p4), .val (.int (p2 &&& (3 : Int32))), .val (.int sv), .val (.ref b52), .val (.ref b55), .val (.int (1 : Int32)), .val (.int (1 : Int32))] [(.int (1 : Int32))])) t
          refine XS.ifNo X63.here hx rfl (hb hby at_159) rfl ((if0 _ _).trans (feq (by decide : ¬ ((1 : Int32) = (0 : Int32)))).1) ?_
          show Steps p.tables e below (T63.setTop (mkF m 162 #[.val (.int p1), .val (.int p2), .val (.int p3), .val (.int p4), .val (.int (p2 &&& (3 : Int32))), .val (.int sv), .val (.ref b52), .val (.ref b55), .val (.int (1 : Int32)), .val (.int (1 : Int32))] [])) t
          refine XS.iconst X63.here hx rfl (hb hby at_162) ?_
          show Steps p.tables e below (T63.setTop (mkF m 163 #[.val (.int p1), .val (.int p2), .val (.int p3), .val (.int p4), .val (.int (p2 &&& (3 : Int32))), .val (.int sv), .val (.ref b52), .val (.ref b55), .val (.int (1 : Int32)), .val (.int (1 : Int32))] [(.int (1 : Int32))])) t
          refine XS.goto X63.here hx rfl (pc0 := 163) (pc' := 167) rfl (hb hby at_163) (by decide) (by decide) ?_
          exact k
        subst hG
        subst hsE
        obtain ⟨fs, hr, hrun, hended, hEW⟩ := X63.leaveW SI (Nat.le_trans W0 (Nat.le_of_eq (by rw [Kq63]))) (v := some (.int (1 : Int32))) (fun h => by rw [Bd.returns] at h; cases h)
        refine WP.fin ⟨_, _, ?_, hrun, hended, _, _, rfl, ?_, hEW.1, hEW.2.1, hEW.2.2.1, hEW.2.2.2.mono (by decide) (by decide)⟩
        · exact retN X63 hx (t := .boolean) Bd.returns (by simp) (hb hby at_167) hr
        · show Q0 Z p1 p2 p3 p4 gC h0 n0 _ T63.heap _ T63.vm
          rw [Kq63]
          exact ⟨rfl, NF⟩
      · skip
        rw [show (if sv = (200 : Int32) then (1 : Int32) else (0 : Int32)) = (0 : Int32) from if_neg hc60]
        show WP p.tables e below _ T58 (mkF m 119 #[.val (.int p1), .val (.int p2), .val (.int p3), .val (.int p4), .val (.int (p2 &&& (3 : Int32))), .val (.int sv), .val (.ref b52), .val (.ref b55), .unset, .unset] [(.int (0 : Int32))])
        refine WP.st (T' := T58) (f' := (mkF m 144 #[.val (.int p1), .val (.int p2), .val (.int p3), .val (.int p4), .val (.int (p2 &&& (3 : Int32))), .val (.int sv), .val (.ref b52), .val (.ref b55), .val (.int (1 : Int32)), .unset] [(.ref b52)])) (fun t k => ?_) ?_
        · refine XS.iload X58.here hx rfl (hb hby at_119) rfl ?_
          show Steps p.tables e below (T58.setTop (mkF m 121 #[.val (.int p1), .val (.int p2), .val (.int p3), .val (.int p4), .val (.int (p2 &&& (3 : Int32))), .val (.int sv), .val (.ref b52), .val (.ref b55), .unset, .unset] [(.int sv), (.int (0 : Int32))])) t
          refine XS.sipush X58.here hx rfl (hb hby at_121) ?_
          show Steps p.tables e below (T58.setTop (mkF m 124 #[.val (.int p1), .val (.int p2), .val (.int p3), .val (.int p4), .val (.int (p2 &&& (3 : Int32))), .val (.int sv), .val (.ref b52), .val (.ref b55), .unset, .unset] [(.int (200 : Int32)), (.int sv), (.int (0 : Int32))])) t
          refine XS.icmpYes X58.here hx rfl (pc0 := 124) (pc' := 131) rfl (hb hby at_124) rfl (feq hc60).2 (by decide) (by decide) ?_
          show Steps p.tables e below (T58.setTop (mkF m 131 #[.val (.int p1), .val (.int p2), .val (.int p3), .val (.int p4), .val (.int (p2 &&& (3 : Int32))), .val (.int sv), .val (.ref b52), .val (.ref b55), .unset, .unset] [(.int (0 : Int32))])) t
          refine XS.iconst X58.here hx rfl (hb hby at_131) ?_
          show Steps p.tables e below (T58.setTop (mkF m 132 #[.val (.int p1), .val (.int p2), .val (.int p3), .val (.int p4), .val (.int (p2 &&& (3 : Int32))), .val (.int sv), .val (.ref b52), .val (.ref b55), .unset, .unset] [(.int (0 : Int32)), (.int (0 : Int32))])) t
          refine XS.icmpNo X58.here hx rfl (hb hby at_132) rfl (teq (by decide : (0 : Int32) = (0 : Int32))).2 ?_
          show Steps p.tables e below (T58.setTop (mkF m 135 #[.val (.int p1), .val (.int p2), .val (.int p3), .val (.int p4), .val (.int (p2 &&& (3 : Int32))), .val (.int sv), .val (.ref b52), .val (.ref b55), .unset, .unset] [])) t
          refine XS.iconst X58.here hx rfl (hb hby at_135) ?_
          show Steps p.tables e below (T58.setTop (mkF m 136 #[.val (.int p1), .val (.int p2), .val (.int p3), .val (.int p4), .val (.int (p2 &&& (3 : Int32))), .val (.int sv), .val (.ref b52), .val (.ref b55), .unset, .unset] [(.int (1 : Int32))])) t
          refine XS.goto X58.here hx rfl (pc0 := 136) (pc' := 140) rfl (hb hby at_136) (by decide) (by decide) ?_
          show Steps p.tables e below (T58.setTop (mkF m 140 #[.val (.int p1), .val (.int p2), .val (.int p3), .val (.int p4), .val (.int (p2 &&& (3 : Int32))), .val (.int sv), .val (.ref b52), .val (.ref b55), .unset, .unset] [(.int (1 : Int32))])) t
          refine XS.istore X58.here hx rfl (hb hby at_140) rfl (l' := #[.val (.int p1), .val (.int p2), .val (.int p3), .val (.int p4), .val (.int (p2 &&& (3 : Int32))), .val (.int sv), .val (.ref b52), .val (.ref b55), .val (.int (1 : Int32)), .unset]) rfl ?_
          show Steps p.tables e below (T58.setTop (mkF m 142 #[.val (.int p1), .val (.int p2), .val (.int p3), .val (.int p4), .val (.int (p2 &&& (3 : Int32))), .val (.int sv), .val (.ref b52), .val (.ref b55), .val (.int (1 : Int32)), .unset] [])) t
          refine XS.aload X58.here hx rfl (hb hby at_142) rfl rfl ?_
          exact k
        obtain ⟨_, _, ⟨T65, L65, k65, n65⟩, -, X65, ⟨Lc65, hQ65, l65, y65, z65⟩, st65⟩ := Jvm.LawKit.callS X58 hx (y := (⟨"com/example/deodar/deodar/protocol/Outcome", "done", "(Ljava/lang/String;)Lcom/example/deodar/deodar/protocol/Outcome;"⟩ : MethodName)) hown (mvT hZ (w_43 hw)) (mvT hZ (w_44 hw)) (mvT hZ (w_24 hw)) (mvT hZ (w_45 hw)) (by decide) (backOf (W := 0) (rm7 l Z a0 hw [] (Value.ref b52) h56 n0 Z0 OLD (by first | rfl | assumption | decide | omega : (Value.ref b52).isRef = true)) hZ (w_45 hw) (w_24 hw) (by decide) (by decide)) (g := (mkF m 144 #[.val (.int p1), .val (.int p2), .val (.int p3), .val (.int p4), .val (.int (p2 &&& (3 : Int32))), .val (.int sv), .val (.ref b52), .val (.ref b55), .val (.int (1 : Int32)), .unset] [(.ref b52)])) rfl (by rw [hml]; rfl) (argsL := [(.ref b52)]) (rest := []) (lenOf pd_5 rfl) rfl (by show 2 * 0 + _ ≤ _; exact Nat.le_of_eq rfl) (hb hby at_144) (fun _ _ => ⟨rfl, Kq58, (by decide : 4 + 1 ≤ _), (by decide : 10 + 2 ≤ _)⟩)
        dsimp only [Pt.U, Pt.locs, Pt.cells, Pt.slots] at X65 l65 y65 z65 st65 hQ65
        subst l65 y65 z65
        obtain ⟨r_65, rfl, Nq65, Kq65, szq_r_65, nE65_r_65, nF65_r_65_status⟩ := hQ65
        replace NF := Fr.app NF Nq65
        clear Nq65
        refine WP.st st65 ?_
        clear st65
        obtain ⟨h65, e65⟩ : ∃ h, T65.heap = h := ⟨_, rfl⟩
        rw [e65] at Kq65 nE65_r_65 nF65_r_65_status
        have ne_b45_r_65 : b45 ≠ r_65 := Nat.ne_of_lt (Nat.lt_of_lt_of_le V_b45.lt szq_r_65)
        have ne_b52_r_65 : b52 ≠ r_65 := Nat.ne_of_lt (Nat.lt_of_lt_of_le E_b52.lt szq_r_65)
        have ne_tb53_r_65 : tb53 ≠ r_65 := Nat.ne_of_lt (Nat.lt_of_lt_of_le V_tb53.lt szq_r_65)
        have ne_b55_r_65 : b55 ≠ r_65 := Nat.ne_of_lt (Nat.lt_of_lt_of_le E_b55.lt szq_r_65)
        replace OLD := OLD.keep Kq65 all0
        replace V_b45 := V_b45.keep Kq65 (by exact nin0)
        replace E_b52 := E_b52.keep Kq65
        replace F_b52_coder := F_b52_coder.keep Kq65 (by exact nin0)
        replace F_b52_value := F_b52_value.keep Kq65 (by exact nin0)
        replace V_tb53 := V_tb53.keep Kq65 (by exact nin0)
        replace E_b55 := E_b55.keep Kq65
        replace F_b55_status := F_b55_status.keep Kq65 (by exact nin0)
        replace F_b55_text := F_b55_text.keep Kq65 (by exact nin0)
        replace Z0 := Nat.le_trans Z0 Kq65.1
        replace W0 := Nat.le_trans W0 Kq65.1
        clear Kq65
        have E_r_65 := nE65_r_65
        clear nE65_r_65
        have F_r_65_status := nF65_r_65_status
        clear nF65_r_65_status
        have hXN : ∃ LL, Stand p l e room_1 s m #[(.int p1), (.int p2), (.int p3), (.int p4)] below meth c T65 LL 5 12 ∧ Fr n0 LL := ⟨_, X65, NF⟩
        clear X65 NF
        obtain ⟨LL66, X65, NF⟩ := hXN
        show WP p.tables e below _ T65 (mkF m 147 #[.val (.int p1), .val (.int p2), .val (.int p3), .val (.int p4), .val (.int (p2 &&& (3 : Int32))), .val (.int sv), .val (.ref b52), .val (.ref b55), .val (.int (1 : Int32)), .unset] [(.ref r_65)])
        obtain ⟨cq67, kq67, q67a, q67b, q67c⟩ := isOf hZ e65 E_r_65
        obtain ⟨_, _, ⟨T67, L67, k67, n67⟩, -, X67, ⟨Lc67, hQ67, l67, y67, z67⟩, st67⟩ := X65.virtualBack hx (y := (⟨"com/example/deodar/deodar/protocol/Outcome", "isDone", "()Z"⟩ : MethodName)) (z := (⟨"com/example/deodar/deodar/protocol/Outcome", "isDone", "()Z"⟩ : MethodName)) hown (mvT hZ (w_38 hw)) (mvT hZ (w_39 hw)) (notFace_of_selects (args := #[]) (mvT hZ (w_41 hw))) (mvT hZ (w_41 hw)) (mvT hZ (w_40 hw)) (by decide) (backOf (W := 0) (rm6 l Z a0 hw [] r_65 (200 : Int32) h65 n0 Z0 F_r_65_status) hZ (w_42 hw) (w_24 hw) (by decide) (by decide)) q67a q67c (g := (mkF m 147 #[.val (.int p1), .val (.int p2), .val (.int p3), .val (.int p4), .val (.int (p2 &&& (3 : Int32))), .val (.int sv), .val (.ref b52), .val (.ref b55), .val (.int (1 : Int32)), .unset] [(.ref r_65)])) rfl (by rw [hml]; rfl) (Steps.refl _) (argsL := []) (rest := []) (lenOf pd_4 rfl) rfl (by show 2 * 0 + _ ≤ _; exact Nat.le_of_eq rfl) (hb hby at_147) (fun _ _ => ⟨rfl, e65, (by decide : 5 + 0 ≤ _), (by decide : 12 + 0 ≤ _)⟩)
        dsimp only [Pt.U, Pt.locs, Pt.cells, Pt.slots] at X67 l67 y67 z67 st67 hQ67
        subst l67 y67 z67
        obtain ⟨rfl, Nq67, Kq67⟩ := hQ67
        replace NF := Fr.app NF Nq67
        clear Nq67
        refine WP.tr st67 ?_
        clear st67
        replace Kq67 := Kq67.trans (rfl : h65 = h65)
        have hXN : ∃ LL, Stand p l e room_1 s m #[(.int p1), (.int p2), (.int p3), (.int p4)] below meth c T67 LL 5 12 ∧ Fr n0 LL := ⟨_, X67, NF⟩
        clear X67 NF
        obtain ⟨LL68, X67, NF⟩ := hXN
        show WP p.tables e below _ T67 (mkF m 150 #[.val (.int p1), .val (.int p2), .val (.int p3), .val (.int p4), .val (.int (p2 &&& (3 : Int32))), .val (.int sv), .val (.ref b52), .val (.ref b55), .val (.int (1 : Int32)), .unset] [(.int (if (200 : Int32) = (200 : Int32) then (1 : Int32) else (0 : Int32)))])
        rw [show (if (200 : Int32) = (200 : Int32) then (1 : Int32) else (0 : Int32)) = (1 : Int32) from if_pos rfl]
        show WP p.tables e below _ T67 (mkF m 150 #[.val (.int p1), .val (.int p2), .val (.int p3), .val (.int p4), .val (.int (p2 &&& (3 : Int32))), .val (.int sv), .val (.ref b52), .val (.ref b55), .val (.int (1 : Int32)), .unset] [(.int (1 : Int32))])
        refine WP.st (T' := T67) (f' := (mkF m 167 #[.val (.int p1), .val (.int p2), .val (.int p3), .val (.int p4), .val (.int (p2 &&& (3 : Int32))), .val (.int sv), .val (.ref b52), .val (.ref b55), .val (.int (1 : Int32)), .val (.int (1 : Int32))] [(.int (1 : Int32))])) (fun t k => ?_) ?_
        · refine XS.istore X67.here hx rfl (hb hby at_150) rfl (l' := #[.val (.int p1), .val (.int p2), .val (.int p3), .val (.int p4), .val (.int (p2 &&& (3 : Int32))), .val (.int sv), .val (.ref b52), .val (.ref b55), .val (.int (1 : Int32)), .val (.int (1 : Int32))]) rfl ?_
          show Steps p.tables e below (T67.setTop (mkF m 152 #[.val (.int p1), .val (.int p2), .val (.int p3), .val (.int p4), .val (.int (p2 &&& (3 : Int32))), .val (.int sv), .val (.ref b52), .val (.ref b55), .val (.int (1 : Int32)), .val (.int (1 : Int32))] [])) t
          refine XS.iload X67.here hx rfl (hb hby at_152) rfl ?_
          show Steps p.tables e below (T67.setTop (mkF m 154 #[.val (.int p1), .val (.int p2), .val (.int p3), .val (.int p4), .val (.int (p2 &&& (3 : Int32))), .val (.int sv), .val (.ref b52), .val (.ref b55), .val (.int (1 : Int32)), .val (.int (1 : Int32))] [(.int (1 : Int32))])) t
          refine XS.ifNo X67.here hx rfl (hb hby at_154) rfl ((if0 _ _).trans (feq (by decide : ¬ ((1 : Int32) = (0 : Int32)))).1) ?_
          show Steps p.tables e below (T67.setTop (mkF m 157 #[.val (.int p1), .val (.int p2), .val (.int p3), .val (.int p4), .val (.int (p2 &&& (3 : Int32))), .val (.int sv), .val (.ref b52), .val (.ref b55), .val (.int (1 : Int32)), .val (.int (1 : Int32))] [])) t
          refine XS.iload X67.here hx rfl (hb hby at_157) rfl ?_
          show Steps p.tables e below (T67.setTop (mkF m 159 #[.val (.int p1), .val (.int p2), .val (.int p3), .val (.int p4), .val (.int (p2 &&& (3 : Int32))), .val (.int sv), .val (.ref b52), .val (.ref b55), .val (.int (1 : Int32)), .val (.int (1 : Int32))] [(.int (1 : Int32))])) t
          refine XS.ifNo X67.here hx rfl (hb hby at_159) rfl ((if0 _ _).trans (feq (by decide : ¬ ((1 : Int32) = (0 : Int32)))).1) ?_
          show Steps p.tables e below (T67.setTop (mkF m 162 #[.val (.int p1), .val (.int p2), .val (.int p3), .val (.int p4), .val (.int (p2 &&& (3 : Int32))), .val (.int sv), .val (.ref b52), .val (.ref b55), .val (.int (1 : Int32)), .val (.int (1 : Int32))] [])) t
          refine XS.iconst X67.here hx rfl (hb hby at_162) ?_
          show Steps p.tables e below (T67.setTop (mkF m 163 #[.val (.int p1), .val (.int p2), .val (.int p3), .val (.int p4), .val (.int (p2 &&& (3 : Int32))), .val (.int sv), .val (.ref b52), .val (.ref b55), .val (.int (1 : Int32)), .val (.int (1 : Int32))] [(.int (1 : Int32))])) t
          refine XS.goto X67.here hx rfl (pc0 := 163) (pc' := 167) rfl (hb hby at_163) (by decide) (by decide) ?_
          exact k
        subst hG
        subst hsE
        obtain ⟨fs, hr, hrun, hended, hEW⟩ := X67.leaveW SI (Nat.le_trans W0 (Nat.le_of_eq (by rw [Kq67]))) (v := some (.int (1 : Int32))) (fun h => by rw [Bd.returns] at h; cases h)
        refine WP.fin ⟨_, _, ?_, hrun, hended, _, _, rfl, ?_, hEW.1, hEW.2.1, hEW.2.2.1, hEW.2.2.2.mono (by decide) (by decide)⟩
        · exact retN X67 hx (t := .boolean) Bd.returns (by simp) (hb hby at_167) hr
        · show Q0 Z p1 p2 p3 p4 gC h0 n0 _ T67.heap _ T67.vm
          rw [Kq67]
          exact ⟨rfl, NF⟩
  refine WP.st (T' := s₁) (f' := (mkF m 7 #[.val (.int p1), .val (.int p2), .val (.int p3), .val (.int p4), .val (.int (p2 &&& (3 : Int32))), .unset, .unset, .unset, .unset, .unset] [(.int (p2 &&& (3 : Int32)))])) (fun t k => ?_) ?_
  · refine XS.iload X0.here hx rfl (hb hby at_5) rfl ?_
    exact k
  by_cases hc69 : (p2 &&& (3 : Int32)) = (0 : Int32)
  · skip
    refine WP.st (T' := s₁) (f' := (mkF m 42 #[.val (.int p1), .val (.int p2), .val (.int p3), .val (.int p4), .val (.int (p2 &&& (3 : Int32))), .val (.int (200 : Int32)), .unset, .unset, .unset, .unset] [])) (fun t k => ?_) ?_
    · refine XS.ifNo X0.here hx rfl (hb hby at_7) rfl ((if0 _ _).trans (teq hc69).2) ?_
      show Steps p.tables e below (s₁.setTop (mkF m 10 #[.val (.int p1), .val (.int p2), .val (.int p3), .val (.int p4), .val (.int (p2 &&& (3 : Int32))), .unset, .unset, .unset, .unset, .unset] [])) t
      refine XS.sipush X0.here hx rfl (hb hby at_10) ?_
      show Steps p.tables e below (s₁.setTop (mkF m 13 #[.val (.int p1), .val (.int p2), .val (.int p3), .val (.int p4), .val (.int (p2 &&& (3 : Int32))), .unset, .unset, .unset, .unset, .unset] [(.int (200 : Int32))])) t
      refine XS.istore X0.here hx rfl (hb hby at_13) rfl (l' := #[.val (.int p1), .val (.int p2), .val (.int p3), .val (.int p4), .val (.int (p2 &&& (3 : Int32))), .val (.int (200 : Int32)), .unset, .unset, .unset, .unset]) rfl ?_
      show Steps p.tables e below (s₁.setTop (mkF m 15 #[.val (.int p1), .val (.int p2), .val (.int p3), .val (.int p4), .val (.int (p2 &&& (3 : Int32))), .val (.int (200 : Int32)), .unset, .unset, .unset, .unset] [])) t
      refine XS.goto X0.here hx rfl (pc0 := 15) (pc' := 42) rfl (hb hby at_15) (by decide) (by decide) ?_
      exact k
    exact J25 _ _  (200 : Int32) (ownWider X0 (by decide) (by decide)) e0 NF  
  · skip
    refine WP.st (T' := s₁) (f' := (mkF m 21 #[.val (.int p1), .val (.int p2), .val (.int p3), .val (.int p4), .val (.int (p2 &&& (3 : Int32))), .unset, .unset, .unset, .unset, .unset] [(.int (1 : Int32)), (.int (p2 &&& (3 : Int32)))])) (fun t k => ?_) ?_
    · refine XS.ifYes X0.here hx rfl (pc0 := 7) (pc' := 18) rfl (hb hby at_7) rfl ((if0 _ _).trans (feq hc69).2) (by decide) (by decide) ?_
      show Steps p.tables e below (s₁.setTop (mkF m 18 #[.val (.int p1), .val (.int p2), .val (.int p3), .val (.int p4), .val (.int (p2 &&& (3 : Int32))), .unset, .unset, .unset, .unset, .unset] [])) t
      refine XS.iload X0.here hx rfl (hb hby at_18) rfl ?_
      show Steps p.tables e below (s₁.setTop (mkF m 20 #[.val (.int p1), .val (.int p2), .val (.int p3), .val (.int p4), .val (.int (p2 &&& (3 : Int32))), .unset, .unset, .unset, .unset, .unset] [(.int (p2 &&& (3 : Int32)))])) t
      refine XS.iconst X0.here hx rfl (hb hby at_20) ?_
      exact k
    by_cases hc70 : (p2 &&& (3 : Int32)) = (1 : Int32)
    · skip
      refine WP.st (T' := s₁) (f' := (mkF m 42 #[.val (.int p1), .val (.int p2), .val (.int p3), .val (.int p4), .val (.int (p2 &&& (3 : Int32))), .val (.int ((200 : Int32) + ((p1 &&& (7 : Int32)) - (3 : Int32)))), .unset, .unset, .unset, .unset] [])) (fun t k => ?_) ?_
      · refine XS.icmpNo X0.here hx rfl (hb hby at_21) rfl (teq hc70).2 ?_
        show Steps p.tables e below (s₁.setTop (mkF m 24 #[.val (.int p1), .val (.int p2), .val (.int p3), .val (.int p4), .val (.int (p2 &&& (3 : Int32))), .unset, .unset, .unset, .unset, .unset] [])) t
        refine XS.sipush X0.here hx rfl (hb hby at_24) ?_
        show Steps p.tables e below (s₁.setTop (mkF m 27 #[.val (.int p1), .val (.int p2), .val (.int p3), .val (.int p4), .val (.int (p2 &&& (3 : Int32))), .unset, .unset, .unset, .unset, .unset] [(.int (200 : Int32))])) t
        refine XS.iloadN X0.here hx rfl (hb hby at_27) rfl ?_
        show Steps p.tables e below (s₁.setTop (mkF m 28 #[.val (.int p1), .val (.int p2), .val (.int p3), .val (.int p4), .val (.int (p2 &&& (3 : Int32))), .unset, .unset, .unset, .unset, .unset] [(.int p1), (.int (200 : Int32))])) t
        refine XS.bipush X0.here hx rfl (hb hby at_28) ?_
        show Steps p.tables e below (s₁.setTop (mkF m 30 #[.val (.int p1), .val (.int p2), .val (.int p3), .val (.int p4), .val (.int (p2 &&& (3 : Int32))), .unset, .unset, .unset, .unset, .unset] [(.int (7 : Int32)), (.int p1), (.int (200 : Int32))])) t
        refine XS.iand X0.here hx rfl (hb hby at_30) rfl ?_
        show Steps p.tables e below (s₁.setTop (mkF m 31 #[.val (.int p1), .val (.int p2), .val (.int p3), .val (.int p4), .val (.int (p2 &&& (3 : Int32))), .unset, .unset, .unset, .unset, .unset] [(.int (p1 &&& (7 : Int32))), (.int (200 : Int32))])) t
        refine XS.iconst X0.here hx rfl (hb hby at_31) ?_
        show Steps p.tables e below (s₁.setTop (mkF m 32 #[.val (.int p1), .val (.int p2), .val (.int p3), .val (.int p4), .val (.int (p2 &&& (3 : Int32))), .unset, .unset, .unset, .unset, .unset] [(.int (3 : Int32)), (.int (p1 &&& (7 : Int32))), (.int (200 : Int32))])) t
        refine XS.isub X0.here hx rfl (hb hby at_32) rfl ?_
        show Steps p.tables e below (s₁.setTop (mkF m 33 #[.val (.int p1), .val (.int p2), .val (.int p3), .val (.int p4), .val (.int (p2 &&& (3 : Int32))), .unset, .unset, .unset, .unset, .unset] [(.int ((p1 &&& (7 : Int32)) - (3 : Int32))), (.int (200 : Int32))])) t
        refine XS.iadd X0.here hx rfl (hb hby at_33) rfl ?_
        show Steps p.tables e below (s₁.setTop (mkF m 34 #[.val (.int p1), .val (.int p2), .val (.int p3), .val (.int p4), .val (.int (p2 &&& (3 : Int32))), .unset, .unset, .unset, .unset, .unset] [(.int ((200 : Int32) + ((p1 &&& (7 : Int32)) - (3 : Int32))))])) t
        refine XS.istore X0.here hx rfl (hb hby at_34) rfl (l' := #[.val (.int p1), .val (.int p2), .val (.int p3), .val (.int p4), .val (.int (p2 &&& (3 : Int32))), .val (.int ((200 : Int32) + ((p1 &&& (7 : Int32)) - (3 : Int32)))), .unset, .unset, .unset, .unset]) rfl ?_
        show Steps p.tables e below (s₁.setTop (mkF m 36 #[.val (.int p1), .val (.int p2), .val (.int p3), .val (.int p4), .val (.int (p2 &&& (3 : Int32))), .val (.int ((200 : Int32) + ((p1 &&& (7 : Int32)) - (3 : Int32)))), .unset, .unset, .unset, .unset] [])) t
        refine XS.goto X0.here hx rfl (pc0 := 36) (pc' := 42) rfl (hb hby at_36) (by decide) (by decide) ?_
        exact k
      exact J25 _ _  ((200 : Int32) + ((p1 &&& (7 : Int32)) - (3 : Int32))) (ownWider X0 (by decide) (by decide)) e0 NF  
    · skip
      refine WP.st (T' := s₁) (f' := (mkF m 42 #[.val (.int p1), .val (.int p2), .val (.int p3), .val (.int p4), .val (.int (p2 &&& (3 : Int32))), .val (.int p1), .unset, .unset, .unset, .unset] [])) (fun t k => ?_) ?_
      · refine XS.icmpYes X0.here hx rfl (pc0 := 21) (pc' := 39) rfl (hb hby at_21) rfl (feq hc70).2 (by decide) (by decide) ?_
        show Steps p.tables e below (s₁.setTop (mkF m 39 #[.val (.int p1), .val (.int p2), .val (.int p3), .val (.int p4), .val (.int (p2 &&& (3 : Int32))), .unset, .unset, .unset, .unset, .unset] [])) t
        refine XS.iloadN X0.here hx rfl (hb hby at_39) rfl ?_
        show Steps p.tables e below (s₁.setTop (mkF m 40 #[.val (.int p1), .val (.int p2), .val (.int p3), .val (.int p4), .val (.int (p2 &&& (3 : Int32))), .unset, .unset, .unset, .unset, .unset] [(.int p1)])) t
        refine XS.istore X0.here hx rfl (hb hby at_40) rfl (l' := #[.val (.int p1), .val (.int p2), .val (.int p3), .val (.int p4), .val (.int (p2 &&& (3 : Int32))), .val (.int p1), .unset, .unset, .unset, .unset]) rfl ?_
        exact k
      exact J25 _ _  p1 (ownWider X0 (by decide) (by decide)) e0 NF  
set_option maxRecDepth 65536 in
set_option maxHeartbeats 40000000 in
theorem comes_1 {Post : Tables → Env → Array Value → State → Outcome → State → Prop} (hpost : ∀ tb e args s v u, (limb_1_1.after args s (.returned v) u = true ∧ limb_1_2.after args s (.returned v) u = true ∧ True) → ReturnedEndW s (.returned v) u (Jvm.fieldLocs frame_1_writes args s ++ Jvm.arrayLocs frame_1_arrays args s ++ Jvm.staticLocs frame_1_statics s) 24 1152 → Post tb e args s (.returned v) u) :
    ArmFor flags0 classFile x code maxLocals ret World_1 tables_1 room_1 Calls_1 rest_1 Pre_1 Post := by
  intro l hfl _ _ p e ha hc hk s m args below hf hA hF happ hP
  obtain ⟨hcalls, hrest, hpre⟩ := hP
  obtain ⟨-, -, -, hnamed, -, -, -, hat⟩ := (Spec.applies_iff hf).mp happ
  obtain ⟨hg, hn⟩ := and_e (Cond.before_iff.mp (show (Jvm.Cond.and given_1 narrow_1).before args s = true from hpre))
  obtain ⟨gg1, gg2⟩ := and_e hg
  obtain ⟨gg3, gg4⟩ := and_e gg2
  obtain ⟨gg5, gg6⟩ := and_e gg4
  obtain ⟨gg7, gg8⟩ := and_e gg6
  obtain ⟨w0, w1, w2, w3, rfl⟩ : ∃ w0 w1 w2 w3 : Value, args = #[w0, w1, w2, w3] := by
    have hs : args.size = 4 := by simpa [Cond.value, given_1] using gg1
    obtain ⟨L⟩ := args
    match L, hs with
    | [w0, w1, w2, w3], _ => exact ⟨w0, w1, w2, w3, rfl⟩
  have hw := fun d (hd : d ∈ tables_1) => atoms_spec (ws := Jvm.Cond.code x code maxLocals ret :: tables_1) hat d (List.mem_cons_of_mem _ hd)
  have hfit : Fit s := fun {y c} hc i hi => by
    obtain ⟨ha, rfl⟩ := Array.getElem?_eq_some_iff.mp hc
    have q := List.all_eq_true.mp ((Array.all_eq_true_iff_forall_mem.mp hF) _ (Array.getElem_mem ha)) i (List.mem_range.mpr hi)
    simpa [Array.getElem?_eq_getElem hi] using q
  obtain ⟨hsets, hown0⟩ := atoms_of _ (rest_1_c_eq ▸ (show rest_1_c.before _ s = true from hrest))
  have hr0 := Cond.before_iff.mp hown0
  obtain ⟨i0, ei0⟩ := is_v gg3
  obtain rfl : w0 = (.int i0) := Option.some.inj ei0
  obtain ⟨i1, ei1⟩ := is_v gg5
  obtain rfl : w1 = (.int i1) := Option.some.inj ei1
  obtain ⟨i2, ei2⟩ := is_v gg7
  obtain rfl : w2 = (.int i2) := Option.some.inj ei2
  obtain ⟨i3, ei3⟩ := is_v gg8
  obtain rfl : w3 = (.int i3) := Option.some.inj ei3
  obtain ⟨gC, eC⟩ := is_v (Cond.before_iff.mp (hsets _ (List.mem_of_getElem? (i := 1) rfl)))
  have O2 : Sta s s.heap "java/lang/String" "COMPACT_STRINGS" "Z" (.int gC) := Sta.start eC (Or.inl (hsets _ (List.mem_of_getElem? (i := 0) rfl)))
  have hz : ¬ (gC = (0 : Int32)) := gotF (Cond.eq_ints eC (Term.int_eval (0))) (not_v (Cond.before_iff.mp (hsets _ (List.mem_of_getElem? (i := 2) rfl))))
  obtain ⟨n, o, h1, h2, h3, _, L, rfl, ⟨rfl, N⟩, hq⟩ := rm0 l s _ hw tables_1 i0 i1 i2 i3 gC s.heap s.heap.size (Nat.le_refl _) (Old.start s) O2 hz (hcalls.1 ("java/lang/String", 7) (by decide)) (hsets _ (List.mem_of_getElem? (i := 2) rfl)) p e ha hc hk s m _ below hf ((Spec.applies_iff_loose hf).mp happ).1 ⟨rfl, State.Warmed39.refl s, rfl, IB.start⟩ trivial
  refine ⟨n, _, h1, h2, h3, hpost _ _ _ _ _ _ ⟨Cond.after_iff.mpr rfl, Cond.after_iff.mpr (eq_i res_at (Term.int_eval (1)) rfl), trivial⟩ ⟨hq.1, hq.2.1, hq.2.2.1, (hq.2.2.2.sift fun y hy => Or.inr (N y hy)).mono (by decide) (by decide)⟩⟩
theorem main_1_1 : Claimed_1_1 := comes_1 fun _ _ _ _ _ _ h hF => ⟨h.1, hF⟩
theorem main_1_2 : Claimed_1_2 := comes_1 fun _ _ _ _ _ _ h hF => ⟨h.2.1, hF⟩
end Jvm.Pilot.@@N@@
namespace Jvm.Pilot.@@N@@
open Jvm Jvm.ClassFile Sem Op Lib Jvm.Free Jvm.Stand Jvm.Pilot.@@N@@.Jvm.D
/-! MADE BY PROGRAM (witnessworld.py) out of the Statement's table words and the real class files: 21 classes; the members and pool entries that the words name. The judged class is class 1, her method 1. -/
namespace start1
open Jvm.ClassFile
def u (s : String) : CpInfo := .utf8 (stringToUtf16 s)
/-- a pool by its gaps: so many unusable entries, then the entry; so many at the end -/
def gap : Nat → List CpInfo → List CpInfo
  | 0, r => r
  | n + 1, r => .unusable :: gap n r
def poolList (es : List (Nat × CpInfo)) (last : Nat) : List CpInfo := es.foldr (fun e r => gap e.1 (e.2 :: r)) (gap last [])
def pool (es : List (Nat × CpInfo)) (last : Nat) : Array CpInfo := ⟨poolList es last⟩
def fileOf (pool : Array CpInfo) (this : Nat) (attrs : Array Attribute := #[]) (ms : Array MethodInfo := #[]) (fl : Nat := 33) (sup : Nat := 0) (ifs : Array Nat := #[]) (fds : Array FieldInfo := #[]) : ClassFile where
  minorVersion := 0
  majorVersion := 65
  constantPool := pool
  accessFlags := fl
  thisClass := this
  superClass := sup
  interfaces := ifs
  fields := fds
  methods := ms
  attributes := attrs
def plain (name : String) (sup : Option ClassId) : Class where
  name := name
  kind := .ordinary
  loader := none
  accessFlags := 33
  super := sup
  interfaces := #[]
  cf := none
  fields := #[]
  methods := #[]
  instanceTypes := #[]
  staticTypes := #[]
  resolved := #[]
  callSites := []
  init := .initialized
  statics := none
  mirror := none

def pool0 : Array CpInfo := pool [(5, u "<init>"), (0, u "()V"), (1, .class_ 10), (1, u "java/lang/Object")] 113

def k0c0 : Code := { maxStack := 0, maxLocals := 1, code := object_method_1_code, exceptionTable := #[], attributes := #[] }
def k0m0 : Method := { name := "<init>", desc := "()V", sig := { parameters := [], returnType := none }, accessFlags := 1, code := some k0c0 }
/-- java/lang/Object -/
def k0 : Class := { plain "java/lang/Object" none with
  accessFlags := 33
  interfaces := #[]
  cf := some (fileOf pool0 8 #[] #[{ accessFlags := 1, nameIndex := 5, descriptorIndex := 6, attributes := #[] }] 33 0 #[] #[])
  fields := #[]
  methods := #[k0m0]
  instanceTypes := #[]
  staticTypes := #[]
  resolved := Array.replicate 124 none
  statics := none }

def pool1 : Array CpInfo := pool [(2, .class_ 4), (1, u "java/lang/Object"), (0, u "<init>"), (0, u "()V"), (0, .class_ 8), (0, u "java/lang/String"), (0, .methodref 7 10), (0, .nameAndType 5 11), (0, u "([C)V"), (0, .class_ 13), (0, u "com/example/deodar/deodar/protocol/Outcome"), (0, .methodref 12 15), (0, .nameAndType 5 16), (0, u "(ILjava/lang/String;)V"), (0, .methodref 12 18), (0, .nameAndType 19 20), (0, u "isDone"), (0, u "()Z"), (0, .methodref 12 22), (0, .nameAndType 23 24), (0, u "done"), (0, u "(Ljava/lang/String;)Lcom/example/deodar/deodar/protocol/Outcome;"), (0, .class_ 26), (0, u "com/example/deodar/deodar/protocol/OutcomeIsDonePinLaw"), (2, u "law"), (0, u "(IIII)Z")] 3

def k1m0 : Method := { name := "<init>", desc := "()V", sig := { parameters := [], returnType := none }, accessFlags := 2, code := none }
def k1c1 : Code := { maxStack := 4, maxLocals := 10, code := code, exceptionTable := #[], attributes := #[] }
def k1m1 : Method := { name := "law", desc := "(IIII)Z", sig := { parameters := [.int, .int, .int, .int], returnType := some .boolean }, accessFlags := 9, code := some k1c1 }
/-- com/example/deodar/deodar/protocol/OutcomeIsDonePinLaw -/
def k1 : Class := { plain "com/example/deodar/deodar/protocol/OutcomeIsDonePinLaw" (some 0) with
  accessFlags := 49
  interfaces := #[]
  cf := some (fileOf pool1 25 #[] #[{ accessFlags := 2, nameIndex := 5, descriptorIndex := 6, attributes := #[] }, { accessFlags := 9, nameIndex := 29, descriptorIndex := 30, attributes := #[] }] 49 2 #[] #[])
  fields := #[]
  methods := #[k1m0, k1m1]
  instanceTypes := #[]
  staticTypes := #[]
  resolved := Array.replicate 34 none
  statics := none }

def pool2 : Array CpInfo := pool [(1, .class_ 2), (0, u "java/io/Serializable"), (0, .class_ 4), (0, u "java/lang/Object")] 2

/-- java/io/Serializable -/
def k2 : Class := { plain "java/io/Serializable" (some 0) with
  accessFlags := 1537
  interfaces := #[]
  cf := some (fileOf pool2 1 #[] #[] 1537 3 #[] #[])
  fields := #[]
  methods := #[]
  instanceTypes := #[]
  staticTypes := #[]
  resolved := Array.replicate 7 none
  statics := none }

def pool3 : Array CpInfo := pool [(1, .class_ 2), (0, u "java/lang/Comparable"), (0, .class_ 4), (0, u "java/lang/Object")] 7

/-- java/lang/Comparable -/
def k3 : Class := { plain "java/lang/Comparable" (some 0) with
  accessFlags := 1537
  interfaces := #[]
  cf := some (fileOf pool3 1 #[] #[] 1537 3 #[] #[])
  fields := #[]
  methods := #[]
  instanceTypes := #[]
  staticTypes := #[]
  resolved := Array.replicate 12 none
  statics := none }

def pool4 : Array CpInfo := pool [(2, .class_ 4), (1, u "java/lang/CharSequence"), (42, .class_ 48), (0, u "java/lang/CharSequence$1CodePointIterator"), (10, .class_ 60), (0, u "java/lang/CharSequence$1CharIterator"), (5, .class_ 67), (0, u "java/lang/Object")] 63

/-- java/lang/CharSequence -/
def k4 : Class := { plain "java/lang/CharSequence" (some 0) with
  accessFlags := 1537
  interfaces := #[]
  cf := some (fileOf pool4 2 #[.nestMembers #[47, 59]] #[] 1537 66 #[] #[])
  fields := #[]
  methods := #[]
  instanceTypes := #[]
  staticTypes := #[]
  resolved := Array.replicate 131 none
  statics := none }

def pool5 : Array CpInfo := pool [(1, .class_ 2), (0, u "java/lang/constant/Constable"), (0, .class_ 4), (0, u "java/lang/Object")] 6

/-- java/lang/constant/Constable -/
def k5 : Class := { plain "java/lang/constant/Constable" (some 0) with
  accessFlags := 1537
  interfaces := #[]
  cf := some (fileOf pool5 1 #[] #[] 1537 3 #[] #[])
  fields := #[]
  methods := #[]
  instanceTypes := #[]
  staticTypes := #[]
  resolved := Array.replicate 11 none
  statics := none }

def pool6 : Array CpInfo := pool [(1, .class_ 2), (0, u "java/lang/constant/ConstantDesc"), (0, .class_ 4), (0, u "java/lang/Object")] 32

/-- java/lang/constant/ConstantDesc -/
def k6 : Class := { plain "java/lang/constant/ConstantDesc" (some 0) with
  accessFlags := 1537
  interfaces := #[]
  cf := some (fileOf pool6 1 #[] #[] 1537 3 #[] #[])
  fields := #[]
  methods := #[]
  instanceTypes := #[]
  staticTypes := #[]
  resolved := Array.replicate 37 none
  statics := none }

def pool7 : Array CpInfo := pool [(1, .methodref 2 3), (0, .class_ 4), (0, .nameAndType 5 6), (0, u "java/lang/Object"), (0, u "<init>"), (0, u "()V"), (0, .string 8), (0, u ""), (0, .fieldref 10 11), (0, .class_ 12), (0, .nameAndType 13 14), (0, u "java/lang/String"), (0, u "value"), (0, u "[B"), (0, .fieldref 10 16), (0, .nameAndType 17 18), (0, u "coder"), (0, u "B"), (2, u "hash"), (0, u "I"), (2, u "hashIsZero"), (0, u "Z"), (0, .methodref 10 28), (0, .nameAndType 5 29), (0, u "([CIILjava/lang/Void;)V"), (8, .fieldref 10 39), (0, .nameAndType 40 26), (0, u "COMPACT_STRINGS"), (1, .class_ 44), (1, u "java/lang/StringUTF16"), (0, u "compress"), (1, .methodref 42 48), (0, .nameAndType 49 50), (0, u "coderFromArrayLen"), (0, u "([BI)B"), (126, .methodref 42 178), (0, .nameAndType 45 179), (0, u "([CII)[B"), (395, .class_ 576), (0, u "java/lang/CharSequence"), (22, u "CASE_INSENSITIVE_ORDER"), (0, u "Ljava/util/Comparator;"), (409, u "([C)V"), (90, u "serialPersistentFields"), (0, u "[Ljava/io/ObjectStreamField;"), (0, .class_ 1104), (0, u "java/lang/String$CaseInsensitiveComparator"), (1, .class_ 1107), (0, u "java/io/Serializable"), (0, .class_ 1109), (0, u "java/lang/Comparable"), (0, .class_ 1111), (0, u "java/lang/constant/Constable"), (0, .class_ 1113), (0, u "java/lang/constant/ConstantDesc"), (2, u "serialVersionUID"), (0, u "J"), (3, u "REPL"), (0, u "C"), (2, u "LATIN1"), (1, u "UTF16")] 323

def k7m0 : Method := { name := "<init>", desc := "()V", sig := { parameters := [], returnType := none }, accessFlags := 1, code := none }
def k7c1 : Code := { maxStack := 5, maxLocals := 2, code := jdk_42_method_3_code, exceptionTable := #[], attributes := #[] }
def k7m1 : Method := { name := "<init>", desc := "([C)V", sig := { parameters := [(.array .char)], returnType := none }, accessFlags := 1, code := some k7c1 }
def k7c2 : Code := { maxStack := 4, maxLocals := 6, code := jdk_42_method_149_code, exceptionTable := #[], attributes := #[] }
def k7m2 : Method := { name := "<init>", desc := "([CIILjava/lang/Void;)V", sig := { parameters := [(.array .char), .int, .int, (.object "java/lang/Void")], returnType := none }, accessFlags := 2, code := some k7c2 }
/-- java/lang/String -/
def k7 : Class := { plain "java/lang/String" (some 0) with
  accessFlags := 49
  interfaces := #[2, 3, 4, 5, 6]
  cf := some (fileOf pool7 10 #[.nestMembers #[1103]] #[{ accessFlags := 1, nameIndex := 5, descriptorIndex := 6, attributes := #[] }, { accessFlags := 1, nameIndex := 5, descriptorIndex := 1010, attributes := #[] }, { accessFlags := 2, nameIndex := 5, descriptorIndex := 29, attributes := #[] }] 49 2 #[1106, 1108, 575, 1110, 1112] #[{ accessFlags := 18, nameIndex := 13, descriptorIndex := 14, attributes := #[] }, { accessFlags := 18, nameIndex := 17, descriptorIndex := 18, attributes := #[] }, { accessFlags := 2, nameIndex := 21, descriptorIndex := 22, attributes := #[] }, { accessFlags := 2, nameIndex := 25, descriptorIndex := 26, attributes := #[] }, { accessFlags := 26, nameIndex := 1116, descriptorIndex := 1117, attributes := #[] }, { accessFlags := 24, nameIndex := 40, descriptorIndex := 26, attributes := #[] }, { accessFlags := 26, nameIndex := 1101, descriptorIndex := 1102, attributes := #[] }, { accessFlags := 26, nameIndex := 1121, descriptorIndex := 1122, attributes := #[] }, { accessFlags := 25, nameIndex := 599, descriptorIndex := 600, attributes := #[] }, { accessFlags := 24, nameIndex := 1125, descriptorIndex := 18, attributes := #[] }, { accessFlags := 24, nameIndex := 1127, descriptorIndex := 18, attributes := #[] }])
  fields := #[{ name := "value", type := (.array .byte), accessFlags := 18, slot := 0, constantValue := 0 }, { name := "coder", type := .byte, accessFlags := 18, slot := 1, constantValue := 0 }, { name := "hash", type := .int, accessFlags := 2, slot := 2, constantValue := 0 }, { name := "hashIsZero", type := .boolean, accessFlags := 2, slot := 3, constantValue := 0 }, { name := "serialVersionUID", type := .long, accessFlags := 26, slot := 0, constantValue := 0 }, { name := "COMPACT_STRINGS", type := .boolean, accessFlags := 24, slot := 1, constantValue := 0 }, { name := "serialPersistentFields", type := (.array (.object "java/io/ObjectStreamField")), accessFlags := 26, slot := 2, constantValue := 0 }, { name := "REPL", type := .char, accessFlags := 26, slot := 3, constantValue := 0 }, { name := "CASE_INSENSITIVE_ORDER", type := (.object "java/util/Comparator"), accessFlags := 25, slot := 4, constantValue := 0 }, { name := "LATIN1", type := .byte, accessFlags := 24, slot := 5, constantValue := 0 }, { name := "UTF16", type := .byte, accessFlags := 24, slot := 6, constantValue := 0 }]
  methods := #[k7m0, k7m1, k7m2]
  instanceTypes := #[(.array .byte), .byte, .int, .boolean]
  staticTypes := #[.long, .boolean, (.array (.object "java/io/ObjectStreamField")), .char, (.object "java/util/Comparator"), .byte, .byte]
  resolved := Array.replicate 1451 none
  statics := some 0 }

def pool8 : Array CpInfo := pool [(1, .methodref 2 3), (0, .class_ 4), (0, .nameAndType 5 6), (0, u "java/lang/Object"), (0, u "<init>"), (0, u "()V"), (0, .class_ 8), (0, u "java/lang/Record")] 13

def k8c0 : Code := { maxStack := 1, maxLocals := 1, code := jdk_30_method_1_code, exceptionTable := #[], attributes := #[] }
def k8m0 : Method := { name := "<init>", desc := "()V", sig := { parameters := [], returnType := none }, accessFlags := 4, code := some k8c0 }
/-- java/lang/Record -/
def k8 : Class := { plain "java/lang/Record" (some 0) with
  accessFlags := 1057
  interfaces := #[]
  cf := some (fileOf pool8 7 #[] #[{ accessFlags := 4, nameIndex := 5, descriptorIndex := 6, attributes := #[] }] 1057 2 #[] #[])
  fields := #[]
  methods := #[k8m0]
  instanceTypes := #[]
  staticTypes := #[]
  resolved := Array.replicate 22 none
  statics := none }

def pool9 : Array CpInfo := pool [(3, .methodref 4 5), (0, .class_ 6), (0, .nameAndType 7 8), (0, u "java/lang/Record"), (0, u "<init>"), (0, u "()V"), (0, .fieldref 10 11), (0, .class_ 12), (0, .nameAndType 13 14), (0, u "com/example/deodar/deodar/protocol/Outcome"), (0, u "status"), (0, u "I"), (0, .fieldref 10 16), (0, .nameAndType 17 18), (0, u "text"), (0, u "Ljava/lang/String;"), (0, .methodref 10 20), (0, .nameAndType 7 21), (0, u "(ILjava/lang/String;)V"), (69, u "MARK_INTERVAL"), (0, u "Ljava/time/Duration;"), (0, u "DONE"), (2, u "MARK"), (1, u "OUTCOME"), (1, u "MAX_TEXT_BYTES"), (3, u "done"), (0, u "(Ljava/lang/String;)Lcom/example/deodar/deodar/protocol/Outcome;"), (0, u "isDone"), (0, u "()Z")] 58

def k9c0 : Code := { maxStack := 2, maxLocals := 3, code := prog_57_method_1_code, exceptionTable := #[], attributes := #[] }
def k9m0 : Method := { name := "<init>", desc := "(ILjava/lang/String;)V", sig := { parameters := [.int, (.object "java/lang/String")], returnType := none }, accessFlags := 1, code := some k9c0 }
def k9c1 : Code := { maxStack := 4, maxLocals := 1, code := prog_57_method_2_code, exceptionTable := #[], attributes := #[] }
def k9m1 : Method := { name := "done", desc := "(Ljava/lang/String;)Lcom/example/deodar/deodar/protocol/Outcome;", sig := { parameters := [(.object "java/lang/String")], returnType := some (.object "com/example/deodar/deodar/protocol/Outcome") }, accessFlags := 9, code := some k9c1 }
def k9c2 : Code := { maxStack := 2, maxLocals := 1, code := prog_57_method_3_code, exceptionTable := #[], attributes := #[] }
def k9m2 : Method := { name := "isDone", desc := "()Z", sig := { parameters := [], returnType := some .boolean }, accessFlags := 1, code := some k9c2 }
/-- com/example/deodar/deodar/protocol/Outcome -/
def k9 : Class := { plain "com/example/deodar/deodar/protocol/Outcome" (some 8) with
  accessFlags := 49
  interfaces := #[]
  cf := some (fileOf pool9 10 #[] #[{ accessFlags := 1, nameIndex := 7, descriptorIndex := 21, attributes := #[] }, { accessFlags := 9, nameIndex := 104, descriptorIndex := 105, attributes := #[] }, { accessFlags := 1, nameIndex := 106, descriptorIndex := 107, attributes := #[] }] 49 4 #[] #[{ accessFlags := 18, nameIndex := 13, descriptorIndex := 14, attributes := #[] }, { accessFlags := 18, nameIndex := 17, descriptorIndex := 18, attributes := #[] }, { accessFlags := 25, nameIndex := 91, descriptorIndex := 92, attributes := #[] }, { accessFlags := 25, nameIndex := 93, descriptorIndex := 14, attributes := #[] }, { accessFlags := 26, nameIndex := 96, descriptorIndex := 14, attributes := #[] }, { accessFlags := 26, nameIndex := 98, descriptorIndex := 14, attributes := #[] }, { accessFlags := 26, nameIndex := 100, descriptorIndex := 14, attributes := #[] }])
  fields := #[{ name := "status", type := .int, accessFlags := 18, slot := 0, constantValue := 0 }, { name := "text", type := (.object "java/lang/String"), accessFlags := 18, slot := 1, constantValue := 0 }, { name := "MARK_INTERVAL", type := (.object "java/time/Duration"), accessFlags := 25, slot := 0, constantValue := 0 }, { name := "DONE", type := .int, accessFlags := 25, slot := 1, constantValue := 0 }, { name := "MARK", type := .int, accessFlags := 26, slot := 2, constantValue := 0 }, { name := "OUTCOME", type := .int, accessFlags := 26, slot := 3, constantValue := 0 }, { name := "MAX_TEXT_BYTES", type := .int, accessFlags := 26, slot := 4, constantValue := 0 }]
  methods := #[k9m0, k9m1, k9m2]
  instanceTypes := #[.int, (.object "java/lang/String")]
  staticTypes := #[(.object "java/time/Duration"), .int, .int, .int, .int]
  resolved := Array.replicate 166 none
  statics := none }

def pool10 : Array CpInfo := pool [(6, .class_ 8), (1, u "java/lang/Object"), (0, u "<init>"), (0, u "()V"), (1, .class_ 14), (1, u "java/lang/StringUTF16"), (31, u "$assertionsDisabled"), (0, u "Z"), (13, u "HI_BYTE_SHIFT"), (0, u "I"), (2, u "LO_BYTE_SHIFT"), (49, .methodref 12 116), (0, .nameAndType 117 118), (0, u "compress"), (0, u "([CI[BII)I"), (3, u "([CII)[B"), (138, u "coderFromArrayLen"), (0, u "([BI)B"), (106, .class_ 371), (1, u "java/lang/StringUTF16$LinesSpliterator"), (58, u "MAX_LENGTH"), (196, .class_ 628), (0, u "java/lang/StringUTF16$CodePointsSpliterator"), (0, .class_ 630), (0, u "java/lang/StringUTF16$CharsSpliterator")] 4

def k10m0 : Method := { name := "<init>", desc := "()V", sig := { parameters := [], returnType := none }, accessFlags := 0, code := none }
def k10c1 : Code := { maxStack := 2, maxLocals := 2, code := jdk_52_method_15_code, exceptionTable := #[], attributes := #[] }
def k10m1 : Method := { name := "coderFromArrayLen", desc := "([BI)B", sig := { parameters := [(.array .byte), .int], returnType := some .byte }, accessFlags := 8, code := some k10c1 }
def k10c2 : Code := { maxStack := 5, maxLocals := 6, code := jdk_52_method_16_code, exceptionTable := #[], attributes := #[] }
def k10m2 : Method := { name := "compress", desc := "([CII)[B", sig := { parameters := [(.array .char), .int, .int], returnType := some (.array .byte) }, accessFlags := 9, code := some k10c2 }
def k10c3 : Code := { maxStack := 3, maxLocals := 7, code := jdk_52_method_21_code, exceptionTable := #[], attributes := #[] }
def k10m3 : Method := { name := "compress", desc := "([CI[BII)I", sig := { parameters := [(.array .char), .int, (.array .byte), .int, .int], returnType := some .int }, accessFlags := 9, code := some k10c3 }
/-- java/lang/StringUTF16 -/
def k10 : Class := { plain "java/lang/StringUTF16" (some 0) with
  accessFlags := 48
  interfaces := #[]
  cf := some (fileOf pool10 12 #[.nestMembers #[627, 629, 369]] #[{ accessFlags := 0, nameIndex := 9, descriptorIndex := 10, attributes := #[] }, { accessFlags := 8, nameIndex := 261, descriptorIndex := 262, attributes := #[] }, { accessFlags := 9, nameIndex := 117, descriptorIndex := 122, attributes := #[] }, { accessFlags := 9, nameIndex := 117, descriptorIndex := 118, attributes := #[] }] 48 6 #[] #[{ accessFlags := 26, nameIndex := 61, descriptorIndex := 62, attributes := #[] }, { accessFlags := 26, nameIndex := 65, descriptorIndex := 62, attributes := #[] }, { accessFlags := 24, nameIndex := 430, descriptorIndex := 62, attributes := #[] }, { accessFlags := 4120, nameIndex := 46, descriptorIndex := 47, attributes := #[] }])
  fields := #[{ name := "HI_BYTE_SHIFT", type := .int, accessFlags := 26, slot := 0, constantValue := 0 }, { name := "LO_BYTE_SHIFT", type := .int, accessFlags := 26, slot := 1, constantValue := 0 }, { name := "MAX_LENGTH", type := .int, accessFlags := 24, slot := 2, constantValue := 0 }, { name := "$assertionsDisabled", type := .boolean, accessFlags := 4120, slot := 3, constantValue := 0 }]
  methods := #[k10m0, k10m1, k10m2, k10m3]
  instanceTypes := #[]
  staticTypes := #[.int, .int, .int, .boolean]
  resolved := Array.replicate 635 none
  statics := none }

def pool11 : Array CpInfo := pool [(4, .class_ 6), (1, u "java/lang/Object"), (0, u "<init>"), (0, u "()V"), (5, .class_ 16), (1, u "java/lang/StringLatin1"), (104, u "$assertionsDisabled"), (0, u "Z"), (98, .class_ 223), (1, u "java/lang/StringLatin1$LinesSpliterator"), (166, .class_ 391), (0, u "java/lang/StringLatin1$CharsSpliterator")] 3

def k11m0 : Method := { name := "<init>", desc := "()V", sig := { parameters := [], returnType := none }, accessFlags := 0, code := none }
/-- java/lang/StringLatin1 -/
def k11 : Class := { plain "java/lang/StringLatin1" (some 0) with
  accessFlags := 48
  interfaces := #[]
  cf := some (fileOf pool11 14 #[.nestMembers #[390, 221]] #[{ accessFlags := 0, nameIndex := 7, descriptorIndex := 8, attributes := #[] }] 48 4 #[] #[{ accessFlags := 4120, nameIndex := 121, descriptorIndex := 122, attributes := #[] }])
  fields := #[{ name := "$assertionsDisabled", type := .boolean, accessFlags := 4120, slot := 0, constantValue := 0 }]
  methods := #[k11m0]
  instanceTypes := #[]
  staticTypes := #[.boolean]
  resolved := Array.replicate 395 none
  statics := none }

def pool12 : Array CpInfo := pool [(2, .class_ 4), (1, u "java/lang/Object"), (0, u "<init>"), (0, u "()V"), (17, .class_ 26), (1, u "jdk/internal/util/Preconditions"), (28, .class_ 56), (0, u "jdk/internal/util/Preconditions$4"), (57, .class_ 115), (0, u "jdk/internal/util/Preconditions$1"), (7, u "SIOOBE_FORMATTER"), (0, u "Ljava/util/function/BiFunction;"), (0, .class_ 126), (0, u "jdk/internal/util/Preconditions$2"), (3, u "AIOOBE_FORMATTER"), (0, .class_ 132), (0, u "jdk/internal/util/Preconditions$3"), (3, u "IOOBE_FORMATTER")] 57

def k12m0 : Method := { name := "<init>", desc := "()V", sig := { parameters := [], returnType := none }, accessFlags := 1, code := none }
/-- jdk/internal/util/Preconditions -/
def k12 : Class := { plain "jdk/internal/util/Preconditions" (some 0) with
  accessFlags := 33
  interfaces := #[]
  cf := some (fileOf pool12 24 #[.nestMembers #[55, 131, 125, 114]] #[{ accessFlags := 1, nameIndex := 5, descriptorIndex := 6, attributes := #[] }] 33 2 #[] #[{ accessFlags := 25, nameIndex := 123, descriptorIndex := 124, attributes := #[] }, { accessFlags := 25, nameIndex := 130, descriptorIndex := 124, attributes := #[] }, { accessFlags := 25, nameIndex := 136, descriptorIndex := 124, attributes := #[] }])
  fields := #[{ name := "SIOOBE_FORMATTER", type := (.object "java/util/function/BiFunction"), accessFlags := 25, slot := 0, constantValue := 0 }, { name := "AIOOBE_FORMATTER", type := (.object "java/util/function/BiFunction"), accessFlags := 25, slot := 1, constantValue := 0 }, { name := "IOOBE_FORMATTER", type := (.object "java/util/function/BiFunction"), accessFlags := 25, slot := 2, constantValue := 0 }]
  methods := #[k12m0]
  instanceTypes := #[]
  staticTypes := #[(.object "java/util/function/BiFunction"), (.object "java/util/function/BiFunction"), (.object "java/util/function/BiFunction")]
  resolved := Array.replicate 194 none
  statics := some 1 }

def pool13 : Array CpInfo := pool [(9, u "<init>"), (6, .class_ 18), (1, u "java/lang/Object"), (0, u "()V"), (1, .class_ 23), (1, u "jdk/internal/util/ArraysSupport"), (0, u "LOG2_ARRAY_LONG_INDEX_SCALE"), (0, u "I"), (2, u "U"), (0, u "Ljdk/internal/misc/Unsafe;"), (8, u "BIG_ENDIAN"), (0, u "Z"), (8, u "LOG2_BYTE_BIT_SIZE"), (4, u "LOG2_ARRAY_INT_INDEX_SCALE"), (54, u "JLA"), (0, u "Ljdk/internal/access/JavaLangAccess;"), (11, u "LOG2_ARRAY_BOOLEAN_INDEX_SCALE"), (9, u "LOG2_ARRAY_BYTE_INDEX_SCALE"), (5, u "LOG2_ARRAY_CHAR_INDEX_SCALE"), (5, u "LOG2_ARRAY_SHORT_INDEX_SCALE"), (18, u "LOG2_ARRAY_FLOAT_INDEX_SCALE"), (24, u "LOG2_ARRAY_DOUBLE_INDEX_SCALE"), (89, u "T_BOOLEAN"), (2, u "T_CHAR"), (1, u "T_FLOAT"), (1, u "T_DOUBLE"), (1, u "T_BYTE"), (1, u "T_SHORT"), (1, u "T_INT"), (1, u "T_LONG"), (1, u "SOFT_MAX_ARRAY_LENGTH")] 83

def k13m0 : Method := { name := "<init>", desc := "()V", sig := { parameters := [], returnType := none }, accessFlags := 2, code := none }
/-- jdk/internal/util/ArraysSupport -/
def k13 : Class := { plain "jdk/internal/util/ArraysSupport" (some 0) with
  accessFlags := 33
  interfaces := #[]
  cf := some (fileOf pool13 21 #[] #[{ accessFlags := 2, nameIndex := 9, descriptorIndex := 19, attributes := #[] }] 33 16 #[] #[{ accessFlags := 24, nameIndex := 28, descriptorIndex := 29, attributes := #[] }, { accessFlags := 26, nameIndex := 38, descriptorIndex := 39, attributes := #[] }, { accessFlags := 25, nameIndex := 121, descriptorIndex := 25, attributes := #[] }, { accessFlags := 25, nameIndex := 131, descriptorIndex := 25, attributes := #[] }, { accessFlags := 25, nameIndex := 137, descriptorIndex := 25, attributes := #[] }, { accessFlags := 25, nameIndex := 143, descriptorIndex := 25, attributes := #[] }, { accessFlags := 25, nameIndex := 53, descriptorIndex := 25, attributes := #[] }, { accessFlags := 25, nameIndex := 24, descriptorIndex := 25, attributes := #[] }, { accessFlags := 25, nameIndex := 162, descriptorIndex := 25, attributes := #[] }, { accessFlags := 25, nameIndex := 187, descriptorIndex := 25, attributes := #[] }, { accessFlags := 26, nameIndex := 48, descriptorIndex := 25, attributes := #[] }, { accessFlags := 25, nameIndex := 277, descriptorIndex := 25, attributes := #[] }, { accessFlags := 25, nameIndex := 280, descriptorIndex := 25, attributes := #[] }, { accessFlags := 25, nameIndex := 282, descriptorIndex := 25, attributes := #[] }, { accessFlags := 25, nameIndex := 284, descriptorIndex := 25, attributes := #[] }, { accessFlags := 25, nameIndex := 286, descriptorIndex := 25, attributes := #[] }, { accessFlags := 25, nameIndex := 288, descriptorIndex := 25, attributes := #[] }, { accessFlags := 25, nameIndex := 290, descriptorIndex := 25, attributes := #[] }, { accessFlags := 25, nameIndex := 292, descriptorIndex := 25, attributes := #[] }, { accessFlags := 26, nameIndex := 108, descriptorIndex := 109, attributes := #[] }, { accessFlags := 25, nameIndex := 294, descriptorIndex := 25, attributes := #[] }])
  fields := #[{ name := "U", type := (.object "jdk/internal/misc/Unsafe"), accessFlags := 24, slot := 0, constantValue := 0 }, { name := "BIG_ENDIAN", type := .boolean, accessFlags := 26, slot := 1, constantValue := 0 }, { name := "LOG2_ARRAY_BOOLEAN_INDEX_SCALE", type := .int, accessFlags := 25, slot := 2, constantValue := 0 }, { name := "LOG2_ARRAY_BYTE_INDEX_SCALE", type := .int, accessFlags := 25, slot := 3, constantValue := 0 }, { name := "LOG2_ARRAY_CHAR_INDEX_SCALE", type := .int, accessFlags := 25, slot := 4, constantValue := 0 }, { name := "LOG2_ARRAY_SHORT_INDEX_SCALE", type := .int, accessFlags := 25, slot := 5, constantValue := 0 }, { name := "LOG2_ARRAY_INT_INDEX_SCALE", type := .int, accessFlags := 25, slot := 6, constantValue := 0 }, { name := "LOG2_ARRAY_LONG_INDEX_SCALE", type := .int, accessFlags := 25, slot := 7, constantValue := 0 }, { name := "LOG2_ARRAY_FLOAT_INDEX_SCALE", type := .int, accessFlags := 25, slot := 8, constantValue := 0 }, { name := "LOG2_ARRAY_DOUBLE_INDEX_SCALE", type := .int, accessFlags := 25, slot := 9, constantValue := 0 }, { name := "LOG2_BYTE_BIT_SIZE", type := .int, accessFlags := 26, slot := 10, constantValue := 0 }, { name := "T_BOOLEAN", type := .int, accessFlags := 25, slot := 11, constantValue := 0 }, { name := "T_CHAR", type := .int, accessFlags := 25, slot := 12, constantValue := 0 }, { name := "T_FLOAT", type := .int, accessFlags := 25, slot := 13, constantValue := 0 }, { name := "T_DOUBLE", type := .int, accessFlags := 25, slot := 14, constantValue := 0 }, { name := "T_BYTE", type := .int, accessFlags := 25, slot := 15, constantValue := 0 }, { name := "T_SHORT", type := .int, accessFlags := 25, slot := 16, constantValue := 0 }, { name := "T_INT", type := .int, accessFlags := 25, slot := 17, constantValue := 0 }, { name := "T_LONG", type := .int, accessFlags := 25, slot := 18, constantValue := 0 }, { name := "JLA", type := (.object "jdk/internal/access/JavaLangAccess"), accessFlags := 26, slot := 19, constantValue := 0 }, { name := "SOFT_MAX_ARRAY_LENGTH", type := .int, accessFlags := 25, slot := 20, constantValue := 0 }]
  methods := #[k13m0]
  instanceTypes := #[]
  staticTypes := #[(.object "jdk/internal/misc/Unsafe"), .boolean, .int, .int, .int, .int, .int, .int, .int, .int, .int, .int, .int, .int, .int, .int, .int, .int, .int, (.object "jdk/internal/access/JavaLangAccess"), .int]
  resolved := Array.replicate 378 none
  statics := none }

def pool14 : Array CpInfo := pool [(1, u "java/lang/Cloneable"), (0, .class_ 1), (0, u "java/lang/Object"), (0, .class_ 3)] 3

/-- java/lang/Cloneable -/
def k14 : Class := { plain "java/lang/Cloneable" (some 0) with
  accessFlags := 1537
  interfaces := #[]
  cf := some (fileOf pool14 2 #[] #[] 1537 4 #[] #[])
  fields := #[]
  methods := #[]
  instanceTypes := #[]
  staticTypes := #[]
  resolved := Array.replicate 8 none
  statics := none }

/-- the primitive byte -/
def k15 : Class := { plain "byte" none with kind := .primitive 'B', accessFlags := 0x411 }
/-- [B -/
def k16 : Class := { plain "[B" (some 0) with kind := .array 15 .byte, interfaces := #[14, 2], accessFlags := 1041 }

/-- the primitive char -/
def k17 : Class := { plain "char" none with kind := .primitive 'C', accessFlags := 0x411 }
/-- [C -/
def k18 : Class := { plain "[C" (some 0) with kind := .array 17 .char, interfaces := #[14, 2], accessFlags := 1041 }

/-- the primitive int -/
def k19 : Class := { plain "int" none with kind := .primitive 'I', accessFlags := 0x411 }
/-- [I -/
def k20 : Class := { plain "[I" (some 0) with kind := .array 19 .int, interfaces := #[14, 2], accessFlags := 1041 }

def heap : Heap := #[{ cls := 7, slots := #[.long 0, .int 1, .null, .int 0, .null, .int 0, .int 0], vm := .statics 7 },
  { cls := 12, slots := #[.null, .null, .null], vm := .statics 12 }]
def classes : Array Class := #[k0, k1, k2, k3, k4, k5, k6, k7, k8, k9, k10, k11, k12, k13, k14, k15, k16, k17, k18, k19, k20]
def interned : List (Array UInt16 × Addr) := []
def slotsUsed : Nat := 10
def theMethod : MethodId := ⟨1, 1⟩
def args0 : Array Value := #[.int 1, .int 4, .int 4, .int 7]
def aboutOver (below : List Frame) : State where
  vm := { classes := classes, interned := interned.toArray }
  heap := heap
  slotsUsed := slotsUsed
  threads := #[{ frames := .invoking theMethod args0 :: below }]
def below0 : List Frame := [.native { method := ⟨0, 0⟩, args := #[] }]
def about1 : State := aboutOver below0
def p0 : Program := .bare "" "" ""
def e0 : Env := launch0.env 0 0 0
theorem w_frames : about1.frames = Frame.invoking theMethod args0 :: below0 := rfl
set_option maxRecDepth 65536 in
theorem w_args : argsFit about1.vm theMethod args0 = true := by decide +kernel
set_option maxRecDepth 65536 in
theorem w_heap : heapFits about1 = true := by decide +kernel
set_option maxRecDepth 65536 in
theorem w_runnable : about1.curStatus? = some .runnable := by decide +kernel
set_option maxRecDepth 65536 in
theorem w_alone : about1.alone = true := by decide +kernel
set_option maxRecDepth 65536 in
theorem w_named : about1.methodNamed? x = some theMethod := by decide +kernel
set_option maxRecDepth 65536 in
theorem w_hears : about1.hears theMethod below0 = true := by decide +kernel
set_option maxRecDepth 65536 in
theorem w_ripe : about1.ripe theMethod args0 below0 = true := by decide +kernel
theorem w_running : about1.status = .running := rfl
set_option maxRecDepth 65536 in
theorem w_room : about1.hasRoom e0.platform room_1 = true :=
  launch0.hasRoom_least _ room_1 (by decide +kernel) (by decide +kernel) (by decide +kernel) (by decide +kernel) (by decide +kernel) (by decide +kernel)
theorem allAtoms_all (ts : List Jvm.Cond) (a : Array Jvm.Value) (st : Jvm.State) : (allAtoms ts).before a st = ts.all (fun c => c.before a st) := by
  induction ts with
  | nil => rfl
  | cons c t ih =>
    show (Jvm.Cond.and c (allAtoms t)).before a st = _
    rw [Jvm.Cond.before_and, ih, List.all_cons]
def words1 : List Jvm.Cond := Jvm.Cond.code x code maxLocals ret :: tables_1
/-- a 'code' word, met by the world's own term for the bytes: nothing is compared byte by byte -/
theorem code_word {y : MethodName} {bytes : ByteArray} {mx : Nat} {rt : Option FieldType} {a : Array Value} {s : State} {m : MethodId} {meth : Method} {c : Code} (h1 : s.methodNamed? y = some m) (h2 : s.vm.method? m = some meth) (h3 : meth.code = some c) (h4 : c.code = bytes)
    (h5 : (c.maxLocals == mx && c.exceptionTable.isEmpty && decide (c.maxStack ≤ mostOperands) && decide (meth.sig.returnType = rt) && !meth.locks && decide (parseMethodDescriptor y.desc = some meth.sig)) = true) : (Jvm.Cond.code y bytes mx rt).before a s = true := by
  simp only [Bool.and_eq_true, beq_iff_eq, Bool.not_eq_true', decide_eq_true_eq] at h5
  obtain ⟨⟨⟨⟨⟨g1, g2⟩, g3⟩, g4⟩, g5⟩, g6⟩ := h5
  simp [Cond.before, Cond.holds, Cond.value, h1, h2, h3, h4, g1, g2, g3, g4, g5, g6]
def isCode : Jvm.Cond → Bool
  | .code _ _ _ _ => true
  | _ => false
theorem all_split {L : List Jvm.Cond} {P : Jvm.Cond → Bool} (h1 : L.all (fun c => isCode c || P c) = true) (h2 : ∀ c ∈ L.filter isCode, P c = true) : L.all P = true := by
  refine List.all_eq_true.mpr fun c hc => ?_
  have h := List.all_eq_true.mp h1 c hc
  rcases Bool.eq_false_or_eq_true (isCode c) with hi | hi
  · exact h2 c (List.mem_filter.mpr ⟨hc, hi⟩)
  · simpa [hi] using h
set_option maxRecDepth 65536 in
theorem w_c0 : (Jvm.Cond.code x code maxLocals ret).before args0 about1 = true := code_word (m := ⟨1, 1⟩) (meth := k1m1) (c := k1c1) (by decide +kernel) rfl rfl rfl (by decide +kernel)
set_option maxRecDepth 65536 in
theorem w_c1 : (Jvm.Cond.code ({ cls := "java/lang/String", name := "<init>", desc := "([C)V" } : Jvm.MethodName) jdk_42_method_3_code (2 : Nat) (Option.none : Option Jvm.ClassFile.FieldType)).before args0 about1 = true := code_word (m := ⟨7, 1⟩) (meth := k7m1) (c := k7c1) (by decide +kernel) rfl rfl rfl (by decide +kernel)
set_option maxRecDepth 65536 in
theorem w_c2 : (Jvm.Cond.code ({ cls := "java/lang/String", name := "<init>", desc := "([CIILjava/lang/Void;)V" } : Jvm.MethodName) jdk_42_method_149_code (6 : Nat) (Option.none : Option Jvm.ClassFile.FieldType)).before args0 about1 = true := code_word (m := ⟨7, 2⟩) (meth := k7m2) (c := k7c2) (by decide +kernel) rfl rfl rfl (by decide +kernel)
set_option maxRecDepth 65536 in
theorem w_c3 : (Jvm.Cond.code ({ cls := "java/lang/Object", name := "<init>", desc := "()V" } : Jvm.MethodName) object_method_1_code (1 : Nat) (Option.none : Option Jvm.ClassFile.FieldType)).before args0 about1 = true := code_word (m := ⟨0, 0⟩) (meth := k0m0) (c := k0c0) (by decide +kernel) rfl rfl rfl (by decide +kernel)
set_option maxRecDepth 65536 in
theorem w_c4 : (Jvm.Cond.code ({ cls := "com/example/deodar/deodar/protocol/Outcome", name := "<init>", desc := "(ILjava/lang/String;)V" } : Jvm.MethodName) prog_57_method_1_code (3 : Nat) (Option.none : Option Jvm.ClassFile.FieldType)).before args0 about1 = true := code_word (m := ⟨9, 0⟩) (meth := k9m0) (c := k9c0) (by decide +kernel) rfl rfl rfl (by decide +kernel)
set_option maxRecDepth 65536 in
theorem w_c5 : (Jvm.Cond.code ({ cls := "java/lang/Record", name := "<init>", desc := "()V" } : Jvm.MethodName) jdk_30_method_1_code (1 : Nat) (Option.none : Option Jvm.ClassFile.FieldType)).before args0 about1 = true := code_word (m := ⟨8, 0⟩) (meth := k8m0) (c := k8c0) (by decide +kernel) rfl rfl rfl (by decide +kernel)
set_option maxRecDepth 65536 in
theorem w_c6 : (Jvm.Cond.code ({ cls := "com/example/deodar/deodar/protocol/Outcome", name := "isDone", desc := "()Z" } : Jvm.MethodName) prog_57_method_3_code (1 : Nat) (Option.some Jvm.ClassFile.FieldType.boolean)).before args0 about1 = true := code_word (m := ⟨9, 2⟩) (meth := k9m2) (c := k9c2) (by decide +kernel) rfl rfl rfl (by decide +kernel)
set_option maxRecDepth 65536 in
theorem w_c7 : (Jvm.Cond.code ({ cls := "com/example/deodar/deodar/protocol/Outcome", name := "done", desc := "(Ljava/lang/String;)Lcom/example/deodar/deodar/protocol/Outcome;" } : Jvm.MethodName) prog_57_method_2_code (1 : Nat) (Option.some (Jvm.ClassFile.FieldType.object "com/example/deodar/deodar/protocol/Outcome"))).before args0 about1 = true := code_word (m := ⟨9, 1⟩) (meth := k9m1) (c := k9c1) (by decide +kernel) rfl rfl rfl (by decide +kernel)
set_option maxRecDepth 65536 in
theorem w_c8 : (Jvm.Cond.code ({ cls := "java/lang/StringUTF16", name := "compress", desc := "([CII)[B" } : Jvm.MethodName) jdk_52_method_16_code (6 : Nat) (Option.some (Jvm.ClassFile.FieldType.array Jvm.ClassFile.FieldType.byte))).before args0 about1 = true := code_word (m := ⟨10, 2⟩) (meth := k10m2) (c := k10c2) (by decide +kernel) rfl rfl rfl (by decide +kernel)
set_option maxRecDepth 65536 in
theorem w_c9 : (Jvm.Cond.code ({ cls := "java/lang/StringUTF16", name := "compress", desc := "([CI[BII)I" } : Jvm.MethodName) jdk_52_method_21_code (7 : Nat) (Option.some Jvm.ClassFile.FieldType.int)).before args0 about1 = true := code_word (m := ⟨10, 3⟩) (meth := k10m3) (c := k10c3) (by decide +kernel) rfl rfl rfl (by decide +kernel)
set_option maxRecDepth 65536 in
theorem w_c10 : (Jvm.Cond.code ({ cls := "java/lang/StringUTF16", name := "coderFromArrayLen", desc := "([BI)B" } : Jvm.MethodName) jdk_52_method_15_code (2 : Nat) (Option.some Jvm.ClassFile.FieldType.byte)).before args0 about1 = true := code_word (m := ⟨10, 1⟩) (meth := k10m1) (c := k10c1) (by decide +kernel) rfl rfl rfl (by decide +kernel)
def codes1 : List Jvm.Cond := [Jvm.Cond.code x code maxLocals ret, Jvm.Cond.code ({ cls := "java/lang/String", name := "<init>", desc := "([C)V" } : Jvm.MethodName) jdk_42_method_3_code (2 : Nat) (Option.none : Option Jvm.ClassFile.FieldType), Jvm.Cond.code ({ cls := "java/lang/String", name := "<init>", desc := "([CIILjava/lang/Void;)V" } : Jvm.MethodName) jdk_42_method_149_code (6 : Nat) (Option.none : Option Jvm.ClassFile.FieldType), Jvm.Cond.code ({ cls := "java/lang/Object", name := "<init>", desc := "()V" } : Jvm.MethodName) object_method_1_code (1 : Nat) (Option.none : Option Jvm.ClassFile.FieldType), Jvm.Cond.code ({ cls := "com/example/deodar/deodar/protocol/Outcome", name := "<init>", desc := "(ILjava/lang/String;)V" } : Jvm.MethodName) prog_57_method_1_code (3 : Nat) (Option.none : Option Jvm.ClassFile.FieldType), Jvm.Cond.code ({ cls := "java/lang/Record", name := "<init>", desc := "()V" } : Jvm.MethodName) jdk_30_method_1_code (1 : Nat) (Option.none : Option Jvm.ClassFile.FieldType), Jvm.Cond.code ({ cls := "com/example/deodar/deodar/protocol/Outcome", name := "isDone", desc := "()Z" } : Jvm.MethodName) prog_57_method_3_code (1 : Nat) (Option.some Jvm.ClassFile.FieldType.boolean), Jvm.Cond.code ({ cls := "com/example/deodar/deodar/protocol/Outcome", name := "done", desc := "(Ljava/lang/String;)Lcom/example/deodar/deodar/protocol/Outcome;" } : Jvm.MethodName) prog_57_method_2_code (1 : Nat) (Option.some (Jvm.ClassFile.FieldType.object "com/example/deodar/deodar/protocol/Outcome")), Jvm.Cond.code ({ cls := "java/lang/StringUTF16", name := "compress", desc := "([CII)[B" } : Jvm.MethodName) jdk_52_method_16_code (6 : Nat) (Option.some (Jvm.ClassFile.FieldType.array Jvm.ClassFile.FieldType.byte)), Jvm.Cond.code ({ cls := "java/lang/StringUTF16", name := "compress", desc := "([CI[BII)I" } : Jvm.MethodName) jdk_52_method_21_code (7 : Nat) (Option.some Jvm.ClassFile.FieldType.int), Jvm.Cond.code ({ cls := "java/lang/StringUTF16", name := "coderFromArrayLen", desc := "([BI)B" } : Jvm.MethodName) jdk_52_method_15_code (2 : Nat) (Option.some Jvm.ClassFile.FieldType.byte)]
set_option maxRecDepth 65536 in
theorem codes_eq : words1.filter isCode = codes1 := rfl
theorem w_codes : ∀ c ∈ words1.filter isCode, c.before args0 about1 = true := by
  rw [codes_eq]
  intro c hc
  simp only [codes1, List.mem_cons, List.not_mem_nil, or_false] at hc
  rcases hc with rfl | rfl | rfl | rfl | rfl | rfl | rfl | rfl | rfl | rfl | rfl
  · exact w_c0
  · exact w_c1
  · exact w_c2
  · exact w_c3
  · exact w_c4
  · exact w_c5
  · exact w_c6
  · exact w_c7
  · exact w_c8
  · exact w_c9
  · exact w_c10
set_option maxRecDepth 65536 in
theorem w_t1 : (words1.take 24).all (fun c => isCode c || c.before args0 about1) = true := by decide +kernel
set_option maxRecDepth 65536 in
theorem w_t2 : ((words1.drop 24).take 24).all (fun c => isCode c || c.before args0 about1) = true := by decide +kernel
set_option maxRecDepth 65536 in
theorem w_t3 : ((words1.drop 24).drop 24).all (fun c => isCode c || c.before args0 about1) = true := by decide +kernel
theorem w_tables : (allAtoms (Jvm.Cond.code x code maxLocals ret :: tables_1)).before args0 about1 = true := by
  rw [allAtoms_all]
  show words1.all (fun c => c.before args0 about1) = true
  refine all_split ?_ w_codes
  rw [← List.take_append_drop 24 words1, List.all_append, w_t1, ← List.take_append_drop 24 (words1.drop 24), List.all_append, w_t2, w_t3]
  rfl
set_option maxRecDepth 65536 in
theorem w_rest : rest_1_c.before args0 about1 = true := by decide +kernel
set_option maxRecDepth 65536 in
theorem w_case : (Jvm.Cond.and given_1 narrow_1).before args0 about1 = true := by decide +kernel
set_option maxRecDepth 65536 in
theorem w_consts : constsHeld consts_1 about1 := Jvm.Lit.constsHeldB_iff.mp (by decide +kernel)
theorem w_applies : (headSpec (Jvm.Cond.code x code maxLocals ret :: tables_1) room_1).applies x e0.platform about1 = true :=
  (Spec.applies_iff w_frames).mpr ⟨w_running, w_runnable, w_alone, w_named, w_hears, w_ripe, w_room, w_tables⟩
theorem atStart : AtStart classFile x code maxLocals ret World_1 tables_1 room_1 Calls_1 rest_1 Pre_1 launch0 p0 e0 about1 theMethod args0 below0 :=
  ⟨lists_1, trivial, launch0.admits_env _ _ _, launch0.least_env, fairChoices_fair.cas, fairChoices_fair.clock, w_frames, w_args, w_heap, w_applies, ⟨w_consts, trivial⟩, w_rest, w_case⟩
end start1
theorem witness_1 : WitnessClaimed_1 := ⟨start1.p0, start1.e0, start1.about1, start1.theMethod, start1.args0, start1.below0, start1.atStart⟩
end Jvm.Pilot.@@N@@
