import JvmDerived
import JvmDerived.Pilot.@@N@@Statement
import JvmDerived.Pilot.@@N@@Code
set_option linter.unusedVariables false
set_option linter.unusedSimpArgs false
namespace Jvm.RoadKit
open Sem ClassFile Op Lib Jvm.Stand Jvm.Free Jvm.LawKit
section New
variable {p : Program} {l : Launch} {e : Env} {R : Room} {s : State} {m : MethodId} {args : Array Value} {below : List Frame} {meth : Method} {c : Code} {T : State} {locs : List Loc} {cells slots : Nat}
theorem retI (X : Stand p l e R s m args below meth c T locs cells slots) (hx : p.tables.exec = Jvm.exec) {pc : Nat} {Ls : Array Slot} {z : Int32} {rest : List Value} (hret : meth.sig.returnType = some .int) (hd : decode c.code pc = .ok (.ireturn, 1)) {fs : List Frame}
    (hl : ∀ (f : JFrame) (acts : List Action), f.method = m → f.locked = none → f.entered = [] → (doReturn e (T.setTop f) acts (some (.int z))).1 = T.setFrames fs) : Steps p.tables e below (T.setTop (mkF m pc Ls (.int z :: rest))) (T.setFrames fs) := by
  have hm' : T.vm.method? m = some meth := X.method'
  have hn : narrow .int (.int z) = .int z := rfl
  show Steps p.tables e below (T.setTop { method := m, pc := pc, locals := Ls, stack := _ :: rest, locked := none }) _
  jvm_step X.here [X.here.top, hx, hd, hm', hret, hn]
  first | (intro acts; rw [hl _ acts rfl rfl rfl]) | rw [hl _ _ rfl rfl rfl]
  exact Steps.refl _
end New
end Jvm.RoadKit
/- laws to paste: Road.backV, Road.codOf, Road.lenW, Road.empW, Road.chN, lo8_inj (cut by pick.py; bodies as the Statement names them) -/
namespace Jvm.Pilot.@@N@@
namespace StrChars
open Jvm Sem ClassFile Op Lib Jvm.Stand Jvm.Free.XT Jvm.Free.ALB Jvm.Free.JM Jvm.Free
open Jvm.Lib.Cold (StaticIs)
/-- a char array whose places are chars -/
def Ch (a : Addr) (A : Cell) (U : State) : Prop := Arr .char a A U ∧ Typed .char A
theorem Ch.mv {a : Addr} {A : Cell} {U U' : State} (h : Ch a A U) (hal : U.vm.Alike U'.vm) (hh : U'.heap = U.heap) : Ch a A U' := ⟨h.1.mv hal hh, h.2⟩
theorem Ch.keep {a : Addr} {A : Cell} {U U' : State} (h : Ch a A U) (hal : U.vm.Alike U'.vm) (hk : U'.heap[a]? = some A) : Ch a A U' := ⟨h.1.keep hal hk, h.2⟩
/-- what place i of a char[]'s cell holds -/
def cv (A : Cell) (i : Nat) : Int32 := match A.slots[i]? with | some (.int x) => x | _ => 0
theorem Ch.get {a : Addr} {A : Cell} {U : State} (h : Ch a A U) {i : Nat} (hi : i < A.slots.size) : A.slots[i]? = some (.int (cv A i)) := by
  have e := Array.getElem?_eq_getElem hi
  have f := h.2 i _ e
  unfold cv; rw [e]
  generalize A.slots[i] = v at f
  cases v <;> simp [fits] at f ⊢
/-- the byte that i2b leaves of a char -/
def lo8 (x : Int32) : Int32 := x.toInt8.toInt32
theorem fits_lo8 (y : Int32) : fits .byte (.int (lo8 y)) = true := by
  have h1 := y.toInt8.le_toInt
  have h2 := y.toInt8.toInt_lt
  simp only [lo8, fits, Bool.and_eq_true, decide_eq_true_eq, Int32.le_iff_toInt_le, Int8.toInt_toInt32, show (-128 : Int32).toInt = -128 from by decide, show (127 : Int32).toInt = 127 from by decide]
  omega
/-- A' is A but that each place j of lo .. hi - 1 holds f j -/
def Laid (A A' : Cell) (lo hi : Nat) (f : Nat → Value) : Prop := A'.cls = A.cls ∧ A'.vm = A.vm ∧ A'.slots.size = A.slots.size ∧ ∀ i, A'.slots[i]? = if lo ≤ i ∧ i < hi then some (f i) else A.slots[i]?
theorem Laid.zero (A : Cell) (lo : Nat) (f : Nat → Value) : Laid A A lo (lo + 0) f := ⟨rfl, rfl, rfl, fun i => by rw [if_neg (by omega)]⟩
theorem Laid.step {A Ak : Cell} {lo k : Nat} {f : Nat → Value} {v : Value} (h : Laid A Ak lo k f) (hlo : lo ≤ k) (hk : k < Ak.slots.size) (hv : v = f k) : Laid A (Ak.setSlot k v) lo (k + 1) f := by
  refine ⟨h.1, h.2.1, by simpa [Cell.setSlot] using h.2.2.1, fun i => ?_⟩
  by_cases e : k = i
  · subst e; rw [Cell.slots_setSlot_self v hk, if_pos (by omega), hv]
  · rw [Cell.slots_setSlot_ne v e, h.2.2.2 i]
    by_cases q : lo ≤ i ∧ i < k
    · rw [if_pos q, if_pos (by omega)]
    · rw [if_neg q, if_neg (by omega)]
def U16 : String := "java/lang/StringUTF16"
namespace Cmp5
def yN : MethodName := ⟨"java/lang/StringUTF16", "compress", "([CI[BII)I"⟩
abbrev yB : ByteArray := jdk_52_method_21_code
theorem d0 : decode yB 0 = .ok (.iconst 0, 1) := by decide +kernel
theorem d1 : decode yB 1 = .ok (.istore 5, 2) := by decide +kernel
theorem d3 : decode yB 3 = .ok (.iload 5, 2) := by decide +kernel
theorem d5 : decode yB 5 = .ok (.iload 4, 2) := by decide +kernel
theorem d7 : decode yB 7 = .ok (.if_icmp (.ge) 37, 3) := by decide +kernel
theorem d10 : decode yB 10 = .ok (.aload_n 0, 1) := by decide +kernel
theorem d11 : decode yB 11 = .ok (.iload_n 1, 1) := by decide +kernel
theorem d12 : decode yB 12 = .ok (.caload, 1) := by decide +kernel
theorem d13 : decode yB 13 = .ok (.istore 6, 2) := by decide +kernel
theorem d15 : decode yB 15 = .ok (.iload 6, 2) := by decide +kernel
theorem d17 : decode yB 17 = .ok (.sipush 255, 3) := by decide +kernel
theorem d20 : decode yB 20 = .ok (.if_icmp (.le) 6, 3) := by decide +kernel
theorem d26 : decode yB 26 = .ok (.aload_n 2, 1) := by decide +kernel
theorem d27 : decode yB 27 = .ok (.iload_n 3, 1) := by decide +kernel
theorem d28 : decode yB 28 = .ok (.iload 6, 2) := by decide +kernel
theorem d30 : decode yB 30 = .ok (.i2b, 1) := by decide +kernel
theorem d31 : decode yB 31 = .ok (.bastore, 1) := by decide +kernel
theorem d32 : decode yB 32 = .ok (.iinc 1 1, 3) := by decide +kernel
theorem d35 : decode yB 35 = .ok (.iinc 3 1, 3) := by decide +kernel
theorem d38 : decode yB 38 = .ok (.iinc 5 1, 3) := by decide +kernel
theorem d41 : decode yB 41 = .ok (.goto (-38), 3) := by decide +kernel
theorem d44 : decode yB 44 = .ok (.iload 4, 2) := by decide +kernel
theorem d46 : decode yB 46 = .ok (.ireturn, 1) := by decide +kernel
def site : List Cond := []
def tab : Cond := tabOf yN yB 7 (some .int) site
def P (b : Addr) (A : Cell) (d : Addr) (B : Cell) (o q len : Nat) (args : Array Value) (s : State) : Prop := args = #[.ref b, .int (Int32.ofNat o), .ref d, .int (Int32.ofNat q), .int (Int32.ofNat len)] ∧ Ch b A s ∧ Arr .byte d B s ∧ b ≠ d ∧ o + len ≤ A.slots.size ∧ q + len ≤ B.slots.size ∧ ∀ i, i < len → ¬ 255 < cv A (o + i)
def E (b : Addr) (A : Cell) (d : Addr) (B : Cell) (o q len : Nat) (r : Option Value) (s u : State) : Prop := r = some (.int (Int32.ofNat len)) ∧ ∃ B', Put d B' s u ∧ Laid B B' q (q + len) (fun j => Value.int (lo8 (cv A (o + (j - q)))))
/-- no char of the range above 255: len; the places written hold each char's low byte -/
theorem law (l : Launch) (b : Addr) (A : Cell) (d : Addr) (B : Cell) (o q len : Nat) : Law l yN 5 5 0 0 yB 7 (some .int) site (P b A d B o q len) (E b A d B o q len) (copyLocs d q len) 0 0 := by
  refine Law.of_walk (plainFor_of_name (by decide +kernel)) (by decide +kernel) (by decide +kernel) (by decide) (fun _ _ h => by rw [h.1]; rfl) (fun _ U U' hal hh h => ⟨h.1, h.2.1.mv hal hh, h.2.2.1.mv hal hh, h.2.2.2⟩) (fun r U U' V V' h1 hal h2 h => ⟨h.1, h.2.elim fun B' q => ⟨B', q.1.mv h1 h2, q.2⟩⟩) ?_
  intro p e s m args below meth c s₁ X0 hexec hbytes hml hret hlk hnm hown hh0 W hP
  obtain ⟨rfl, hA, hB, hne, l1, l2, hp⟩ := hP
  have c1 : Steps p.tables e below (s₁.setTop (entryFrame m #[.ref b, .int (Int32.ofNat o), .ref d, .int (Int32.ofNat q), .int (Int32.ofNat len)] 7)) (s₁.setTop (mkF m 0 #[.val (.ref b), .val (.int (Int32.ofNat o)), .val (.ref d), .val (.int (Int32.ofNat q)), .val (.int (Int32.ofNat len)), .unset, .unset] [])) := entry rfl
  have hA0 := hA.1.mv X0.warmed.alike hh0
  have hB0 := hB.mv X0.warmed.alike hh0
  have a31 := hA.1.2.2.2
  have c2 : Steps p.tables e below (s₁.setTop (entryFrame m #[.ref b, .int (Int32.ofNat o), .ref d, .int (Int32.ofNat q), .int (Int32.ofNat len)] 7)) (s₁.setTop (mkF m 3 #[.val (.ref b), .val (.int (Int32.ofNat o)), .val (.ref d), .val (.int (Int32.ofNat q)), .val (.int (Int32.ofNat len)), .val (.int 0), .unset] [])) := c1.trans (by
    refine iconstV X0.here hexec rfl 0 (hb hbytes d0) (by decide) ?_
    refine XS.istore X0.here hexec rfl (hb hbytes d1) rfl rfl ?_
    exact Steps.refl _)
  have loop : ∀ (r i : Nat), i + r = len → ∀ (z : Slot), (z = .unset ∨ ∃ w, z = .val w ∧ w.category = 1) → ∀ (Tl : State) (Bk : Cell), Stand p l e { frames := 0, locals := 0, cells := 0, slots := 0 } s m #[.ref b, .int (Int32.ofNat o), .ref d, .int (Int32.ofNat q), .int (Int32.ofNat len)] below meth c Tl ([] ++ copyLocs d q i) 0 0 → Put d Bk s₁ Tl → Laid B Bk q (q + i) (fun j => Value.int (lo8 (cv A (o + (j - q))))) →
      Steps p.tables e below (s₁.setTop (entryFrame m #[.ref b, .int (Int32.ofNat o), .ref d, .int (Int32.ofNat q), .int (Int32.ofNat len)] 7)) (Tl.setTop (mkF m 3 #[.val (.ref b), .val (.int (Int32.ofNat (o + i))), .val (.ref d), .val (.int (Int32.ofNat (q + i))), .val (.int (Int32.ofNat len)), .val (.int (Int32.ofNat i)), z] [])) → ∃ (T' : State) (B' : Cell) (z' : Slot), Stand p l e { frames := 0, locals := 0, cells := 0, slots := 0 } s m #[.ref b, .int (Int32.ofNat o), .ref d, .int (Int32.ofNat q), .int (Int32.ofNat len)] below meth c T' ([] ++ copyLocs d q len) 0 0 ∧ Put d B' s₁ T' ∧ Laid B B' q (q + len) (fun j => Value.int (lo8 (cv A (o + (j - q))))) ∧
      Steps p.tables e below (s₁.setTop (entryFrame m #[.ref b, .int (Int32.ofNat o), .ref d, .int (Int32.ofNat q), .int (Int32.ofNat len)] 7)) (T'.setTop (mkF m 3 #[.val (.ref b), .val (.int (Int32.ofNat (o + len))), .val (.ref d), .val (.int (Int32.ofNat (q + len))), .val (.int (Int32.ofNat len)), .val (.int (Int32.ofNat len)), z'] [])) := by
    intro r
    induction r with
    | zero =>
      intro i hi z hz Tl Bk Xl pl fl cl
      have hil : i = len := by omega
      rw [hil] at Xl fl cl
      exact ⟨Tl, Bk, z, Xl, pl, fl, cl⟩
    | succ r ih =>
      intro i hi z hz Tl Bk Xl pl fl cl
      have all := X0.warmed.alike.symm.trans Xl.warmed.alike
      have hAl := hA0.keep all (pl.other hne hA0.1)
      have hBk := hB0.like all pl.1 fl.1 fl.2.1 fl.2.2.1
      have hlt : q + i < Bk.slots.size := by rw [fl.2.2.1]; omega
      have c3 : Steps p.tables e below (s₁.setTop (entryFrame m #[.ref b, .int (Int32.ofNat o), .ref d, .int (Int32.ofNat q), .int (Int32.ofNat len)] 7)) (Tl.setTop (mkF m 12 #[.val (.ref b), .val (.int (Int32.ofNat (o + i))), .val (.ref d), .val (.int (Int32.ofNat (q + i))), .val (.int (Int32.ofNat len)), .val (.int (Int32.ofNat i)), z] [.int (Int32.ofNat (o + i)), .ref b])) := cl.trans (by
        refine XS.iload Xl.here hexec rfl (hb hbytes d3) rfl ?_
        refine XS.iload Xl.here hexec rfl (hb hbytes d5) rfl ?_
        refine XS.icmpNo Xl.here hexec rfl (hb hbytes d7) rfl (ii_ge_f (lt32 (by omega) (by omega))) ?_
        refine XS.aloadN Xl.here hexec rfl (hb hbytes d10) rfl rfl ?_
        refine XS.iloadN Xl.here hexec rfl (hb hbytes d11) rfl ?_
        exact Steps.refl _)
      have c4 : Steps p.tables e below (s₁.setTop (entryFrame m #[.ref b, .int (Int32.ofNat o), .ref d, .int (Int32.ofNat q), .int (Int32.ofNat len)] 7)) (Tl.setTop (mkF m 13 #[.val (.ref b), .val (.int (Int32.ofNat (o + i))), .val (.ref d), .val (.int (Int32.ofNat (q + i))), .val (.int (Int32.ofNat len)), .val (.int (Int32.ofNat i)), z] [.int (cv A (o + i))])) := c3.trans (by
        refine Xl.aget hexec hAl rfl (hA.get (i := o + i) (by omega)) rfl rfl (hb hbytes d12) ?_
        exact Steps.refl _)
      have c5 : Steps p.tables e below (s₁.setTop (entryFrame m #[.ref b, .int (Int32.ofNat o), .ref d, .int (Int32.ofNat q), .int (Int32.ofNat len)] 7)) (Tl.setTop (mkF m 15 #[.val (.ref b), .val (.int (Int32.ofNat (o + i))), .val (.ref d), .val (.int (Int32.ofNat (q + i))), .val (.int (Int32.ofNat len)), .val (.int (Int32.ofNat i)), .val (.int (cv A (o + i)))] [])) := c4.trans (by
        refine XS.istoreS Xl.here hexec rfl (hb hbytes d13) rfl rfl hz ?_
        exact Steps.refl _)
      have c6 : Steps p.tables e below (s₁.setTop (entryFrame m #[.ref b, .int (Int32.ofNat o), .ref d, .int (Int32.ofNat q), .int (Int32.ofNat len)] 7)) (Tl.setTop (mkF m 31 #[.val (.ref b), .val (.int (Int32.ofNat (o + i))), .val (.ref d), .val (.int (Int32.ofNat (q + i))), .val (.int (Int32.ofNat len)), .val (.int (Int32.ofNat i)), .val (.int (cv A (o + i)))] [.int (lo8 (cv A (o + i))), .int (Int32.ofNat (q + i)), .ref d])) := c5.trans (by
        refine XS.iload Xl.here hexec rfl (hb hbytes d15) rfl ?_
        refine sipushV Xl.here hexec rfl 255 (hb hbytes d17) (by decide) ?_
        refine XS.icmpYes Xl.here hexec rfl (pc0 := 20) rfl (hb hbytes d20) rfl (ii_le_t (hp i (by omega))) (by decide) rfl ?_
        refine XS.aloadN Xl.here hexec rfl (hb hbytes d26) rfl rfl ?_
        refine XS.iloadN Xl.here hexec rfl (hb hbytes d27) rfl ?_
        refine XS.iload Xl.here hexec rfl (hb hbytes d28) rfl ?_
        refine i2b Xl.here hexec rfl (hb hbytes d30) rfl ?_
        exact Steps.refl _)
      obtain ⟨T7, X7, p7, st7⟩ := Xl.aput hexec hBk rfl hlt rfl (fits_lo8 (cv A (o + i))) (g := (mkF m 31 #[.val (.ref b), .val (.int (Int32.ofNat (o + i))), .val (.ref d), .val (.int (Int32.ofNat (q + i))), .val (.int (Int32.ofNat len)), .val (.int (Int32.ofNat i)), .val (.int (cv A (o + i)))] [.int (lo8 (cv A (o + i))), .int (Int32.ofNat (q + i)), .ref d])) rfl (rest := []) rfl (hb hbytes d31)
      have c8 : Steps p.tables e below (s₁.setTop (entryFrame m #[.ref b, .int (Int32.ofNat o), .ref d, .int (Int32.ofNat q), .int (Int32.ofNat len)] 7)) (T7.setTop (mkF m 32 #[.val (.ref b), .val (.int (Int32.ofNat (o + i))), .val (.ref d), .val (.int (Int32.ofNat (q + i))), .val (.int (Int32.ofNat len)), .val (.int (Int32.ofNat i)), .val (.int (cv A (o + i)))] [])) := c6.trans (st7 _ (Steps.refl _))
      have c9 : Steps p.tables e below (s₁.setTop (entryFrame m #[.ref b, .int (Int32.ofNat o), .ref d, .int (Int32.ofNat q), .int (Int32.ofNat len)] 7)) (T7.setTop (mkF m 3 #[.val (.ref b), .val (.int (Int32.ofNat (o + i) + 1)), .val (.ref d), .val (.int (Int32.ofNat (q + i) + 1)), .val (.int (Int32.ofNat len)), .val (.int (Int32.ofNat i + 1)), .val (.int (cv A (o + i)))] [])) := c8.trans (by
        refine iincV X7.here hexec rfl 1 (hb hbytes d32) (by decide) rfl rfl ?_
        refine iincV X7.here hexec rfl 1 (hb hbytes d35) (by decide) rfl rfl ?_
        refine iincV X7.here hexec rfl 1 (hb hbytes d38) (by decide) rfl rfl ?_
        refine XS.goto X7.here hexec rfl (pc0 := 41) rfl (hb hbytes d41) (by decide) rfl ?_
        exact Steps.refl _)
      have c10 : Steps p.tables e below (s₁.setTop (entryFrame m #[.ref b, .int (Int32.ofNat o), .ref d, .int (Int32.ofNat q), .int (Int32.ofNat len)] 7)) (T7.setTop (mkF m 3 #[.val (.ref b), .val (.int (Int32.ofNat (o + (i + 1)))), .val (.ref d), .val (.int (Int32.ofNat (q + (i + 1)))), .val (.int (Int32.ofNat len)), .val (.int (Int32.ofNat (i + 1))), .val (.int (cv A (o + i)))] [])) := by
        have := c9
        rw [succ32, succ32, succ32] at this
        exact this
      exact ih (i + 1) (by omega) _ (Or.inr ⟨_, rfl, rfl⟩) T7 _ (by rw [copyLocs_step, ← List.append_assoc]; exact X7) (pl.trans p7) (fl.step (by omega) hlt (by simp)) c10
  obtain ⟨T9, B9, z9, X9, p9, f9, g9⟩ := loop len 0 (by omega) .unset (Or.inl rfl) s₁ B (by simpa [copyLocs] using X0) ⟨hB0.1, fun _ _ => rfl, rfl⟩ (Laid.zero _ _ _) c2
  have c11 : Steps p.tables e below (s₁.setTop (entryFrame m #[.ref b, .int (Int32.ofNat o), .ref d, .int (Int32.ofNat q), .int (Int32.ofNat len)] 7)) (T9.setTop (mkF m 46 #[.val (.ref b), .val (.int (Int32.ofNat (o + len))), .val (.ref d), .val (.int (Int32.ofNat (q + len))), .val (.int (Int32.ofNat len)), .val (.int (Int32.ofNat len)), z9] [.int (Int32.ofNat len)])) := g9.trans (by
    refine XS.iload X9.here hexec rfl (hb hbytes d3) rfl ?_
    refine XS.iload X9.here hexec rfl (hb hbytes d5) rfl ?_
    refine XS.icmpYes X9.here hexec rfl (pc0 := 7) rfl (hb hbytes d7) rfl (ii_ge_t (nlt32 (by omega) (Nat.le_refl _))) (by decide) rfl ?_
    refine XS.iload X9.here hexec rfl (hb hbytes d44) rfl ?_
    exact Steps.refl _)
  exact ⟨T9, some (.int (Int32.ofNat len)), _, _, _, X9, by simp, rfl, rfl, (fun h => by cases h), ⟨rfl, B9, p9.from hh0, f9⟩, fun fs hl => c11.trans (X9.ireturnOut hexec hret rfl (Or.inl rfl) (hb hbytes d46) hl)⟩
end Cmp5
namespace Cmp3
def yN : MethodName := ⟨"java/lang/StringUTF16", "compress", "([CII)[B"⟩
abbrev yB : ByteArray := jdk_52_method_16_code
theorem d0 : decode yB 0 = .ok (.iload_n 2, 1) := by decide +kernel
theorem d1 : decode yB 1 = .ok (.newarray .byte, 2) := by decide +kernel
theorem d3 : decode yB 3 = .ok (.astore_n 3, 1) := by decide +kernel
theorem d4 : decode yB 4 = .ok (.aload_n 0, 1) := by decide +kernel
theorem d5 : decode yB 5 = .ok (.iload_n 1, 1) := by decide +kernel
theorem d6 : decode yB 6 = .ok (.aload_n 3, 1) := by decide +kernel
theorem d7 : decode yB 7 = .ok (.iconst 0, 1) := by decide +kernel
theorem d8 : decode yB 8 = .ok (.iload_n 2, 1) := by decide +kernel
theorem d9 : decode yB 9 = .ok (.invokestatic 115, 3) := by decide +kernel
theorem d12 : decode yB 12 = .ok (.istore 4, 2) := by decide +kernel
theorem d14 : decode yB 14 = .ok (.iload 4, 2) := by decide +kernel
theorem d16 : decode yB 16 = .ok (.iload_n 2, 1) := by decide +kernel
theorem d17 : decode yB 17 = .ok (.if_icmp (.eq) 40, 3) := by decide +kernel
theorem d57 : decode yB 57 = .ok (.aload_n 3, 1) := by decide +kernel
theorem d58 : decode yB 58 = .ok (.areturn, 1) := by decide +kernel
def site : List Cond := [.arrayClass .byte, Cmp5.tab] ++ staticW U16 115 Cmp5.yN
def tab : Cond := tabOf yN yB 6 (some (.array .byte)) site
def P (b : Addr) (A : Cell) (o len : Nat) (args : Array Value) (s : State) : Prop := args = #[.ref b, .int (Int32.ofNat o), .int (Int32.ofNat len)] ∧ Ch b A s ∧ o + len ≤ A.slots.size ∧ len ≤ 536870912 ∧ ∀ i, i < len → ¬ 255 < cv A (o + i)
def E (b : Addr) (A : Cell) (o len : Nat) (r : Option Value) (s u : State) : Prop := NewArr .byte "[B" len (fun j => .int (lo8 (cv A (o + j)))) r s u ∧ u.heap.size = s.heap.size + 1
/-- no char of the range above 255: a new byte[] of their low bytes -/
theorem law (l : Launch) (b : Addr) (A : Cell) (o len : Nat) : Law l yN 3 3 1 18 yB 6 (some (.array .byte)) site (P b A o len) (E b A o len) [] 1 len := by
  refine Law.of_walk (plainFor_of_name (by decide +kernel)) (by decide +kernel) (by decide +kernel) (by decide) (fun _ _ h => by rw [h.1]; rfl) (fun _ U U' hal hh h => ⟨h.1, h.2.1.mv hal hh, h.2.2⟩) (fun r U U' V V' h1 hal h2 h => ⟨NewArr.mv r U U' V V' h1 hal h2 h.1, by rw [h1, h2]; exact h.2⟩) ?_
  intro p e s m args below meth c s₁ X0 hexec hbytes hml hret hlk hnm hown hh0 W hP
  obtain ⟨rfl, hA, l1, l2, hp⟩ := hP
  have a31 := hA.1.2.2.2
  have c1 : Steps p.tables e below (s₁.setTop (entryFrame m #[.ref b, .int (Int32.ofNat o), .int (Int32.ofNat len)] 6)) (s₁.setTop (mkF m 0 #[.val (.ref b), .val (.int (Int32.ofNat o)), .val (.int (Int32.ofNat len)), .unset, .unset, .unset] [])) := entry rfl
  have c2 : Steps p.tables e below (s₁.setTop (entryFrame m #[.ref b, .int (Int32.ofNat o), .int (Int32.ofNat len)] 6)) (s₁.setTop (mkF m 1 #[.val (.ref b), .val (.int (Int32.ofNat o)), .val (.int (Int32.ofNat len)), .unset, .unset, .unset] [.int (Int32.ofNat len)])) := c1.trans (by
    refine XS.iloadN X0.here hexec rfl (hb hbytes d0) rfl ?_
    exact Steps.refl _)
  obtain ⟨T3, B3, X3, ba3, bs3, bv3, bh3, bf3, st3⟩ := X0.anew hexec (atype := .byte) (wk W (.arrayClass .byte)) rfl (by show len * 1 ≤ _; omega) (by omega) (g := (mkF m 1 #[.val (.ref b), .val (.int (Int32.ofNat o)), .val (.int (Int32.ofNat len)), .unset, .unset, .unset] [.int (Int32.ofNat len)])) rfl (hb hbytes d1) (rest := []) rfl (Nat.le_refl _) (by show 0 + len ≤ len; omega)
  rw [hh0] at ba3 st3
  have kp3 : XT.Kept s T3 := (XT.Kept.of_eq hh0).push bh3
  have hA3 := hA.keep X3.warmed.alike (kp3 _ _ hA.1.1)
  have hne : b ≠ s.heap.size := hA.1.ne
  have c4 : Steps p.tables e below (s₁.setTop (entryFrame m #[.ref b, .int (Int32.ofNat o), .int (Int32.ofNat len)] 6)) (T3.setTop (mkF m 3 #[.val (.ref b), .val (.int (Int32.ofNat o)), .val (.int (Int32.ofNat len)), .unset, .unset, .unset] [.ref s.heap.size])) := c2.trans (st3 _ (Steps.refl _))
  have c5 : Steps p.tables e below (s₁.setTop (entryFrame m #[.ref b, .int (Int32.ofNat o), .int (Int32.ofNat len)] 6)) (T3.setTop (mkF m 9 #[.val (.ref b), .val (.int (Int32.ofNat o)), .val (.int (Int32.ofNat len)), .val (.ref s.heap.size), .unset, .unset] [.int (Int32.ofNat len), .int 0, .ref s.heap.size, .int (Int32.ofNat o), .ref b])) := c4.trans (by
    refine XS.astoreN X3.here hexec rfl (hb hbytes d3) rfl rfl rfl ?_
    refine XS.aloadN X3.here hexec rfl (hb hbytes d4) rfl rfl ?_
    refine XS.iloadN X3.here hexec rfl (hb hbytes d5) rfl ?_
    refine XS.aloadN X3.here hexec rfl (hb hbytes d6) rfl rfl ?_
    refine iconstV X3.here hexec rfl 0 (hb hbytes d7) (by decide) ?_
    refine XS.iloadN X3.here hexec rfl (hb hbytes d8) rfl ?_
    exact Steps.refl _)
  obtain ⟨v6, T6, X6, E6, g6⟩ := X3.callS hexec (Cmp5.law l b A s.heap.size B3 o 0 len) hown (wks W (staticW U16 115 Cmp5.yN)) (wk W Cmp5.tab) (W := 0) (Nat.le_of_ble_eq_true rfl) (Nat.le_of_ble_eq_true rfl) (Nat.le_refl _) (by show 0 + len + 0 ≤ len; omega) (g := (mkF m 9 #[.val (.ref b), .val (.int (Int32.ofNat o)), .val (.int (Int32.ofNat len)), .val (.ref s.heap.size), .unset, .unset] [.int (Int32.ofNat len), .int (Int32.ofNat 0), .ref s.heap.size, .int (Int32.ofNat o), .ref b])) rfl (by rw [hml]; rfl) c5 (argsL := [.ref b, .int (Int32.ofNat o), .ref s.heap.size, .int (Int32.ofNat 0), .int (Int32.ofNat len)]) (rest := []) rfl rfl (by show 2 * 0 + 0 ≤ _; decide) (hb hbytes d9) (⟨rfl, hA3, ba3, hne, l1, by rw [bs3]; simp, hp⟩)
  obtain ⟨rfl, B6, p6, f6⟩ := E6
  have c7 : Steps p.tables e below (s₁.setTop (entryFrame m #[.ref b, .int (Int32.ofNat o), .int (Int32.ofNat len)] 6)) (T6.setTop (mkF m 12 #[.val (.ref b), .val (.int (Int32.ofNat o)), .val (.int (Int32.ofNat len)), .val (.ref s.heap.size), .unset, .unset] [.int (Int32.ofNat len)])) := g6
  have c8 : Steps p.tables e below (s₁.setTop (entryFrame m #[.ref b, .int (Int32.ofNat o), .int (Int32.ofNat len)] 6)) (T6.setTop (mkF m 58 #[.val (.ref b), .val (.int (Int32.ofNat o)), .val (.int (Int32.ofNat len)), .val (.ref s.heap.size), .val (.int (Int32.ofNat len)), .unset] [.ref s.heap.size])) := c7.trans (by
    refine XS.istore X6.here hexec rfl (hb hbytes d12) rfl rfl ?_
    refine XS.iload X6.here hexec rfl (hb hbytes d14) rfl ?_
    refine XS.iloadN X6.here hexec rfl (hb hbytes d16) rfl ?_
    refine XS.icmpYes X6.here hexec rfl (pc0 := 17) rfl (hb hbytes d17) rfl (ii_eq_t rfl) (by decide) rfl ?_
    refine XS.aloadN X6.here hexec rfl (hb hbytes d57) rfl rfl ?_
    exact Steps.refl _)
  have X8 := X6.wide (L' := []) (cells' := 1) (slots' := len) (fun x hx hlt => by
    simp only [List.nil_append, copyLocs, List.mem_map, List.mem_range] at hx
    obtain ⟨i, -, rfl⟩ := hx
    exact absurd hlt (Nat.lt_irrefl _)) (Nat.le_refl _) (by omega)
  exact ⟨T6, some (.ref s.heap.size), _, _, _, X8, rfl, rfl, rfl, (fun h => by cases h), ⟨⟨rfl, B6, ba3.like (X3.warmed.alike.symm.trans X6.warmed.alike) p6.1 f6.1 f6.2.1 f6.2.2.1, f6.2.1.trans bv3, by rw [X6.warmed.alike.findClass, f6.1]; exact bf3, by rw [f6.2.2.1, bs3]; simp, fun j hj => by rw [f6.2.2.2 j, if_pos (by omega)]; rfl, kp3.put p6 (Nat.le_refl _)⟩, by rw [p6.2.2, bh3, hh0]; simp⟩, fun fs hl => c8.trans (X8.areturnOut hexec rfl hret rfl (hb hbytes d58) hl)⟩
end Cmp3
namespace CodL
def yN : MethodName := ⟨"java/lang/StringUTF16", "coderFromArrayLen", "([BI)B"⟩
abbrev yB : ByteArray := jdk_52_method_15_code
theorem d0 : decode yB 0 = .ok (.iload_n 1, 1) := by decide +kernel
theorem d1 : decode yB 1 = .ok (.aload_n 0, 1) := by decide +kernel
theorem d2 : decode yB 2 = .ok (.arraylength, 1) := by decide +kernel
theorem d3 : decode yB 3 = .ok (.isub, 1) := by decide +kernel
theorem d4 : decode yB 4 = .ok (.bipush 31, 2) := by decide +kernel
theorem d6 : decode yB 6 = .ok (.iushr, 1) := by decide +kernel
theorem d7 : decode yB 7 = .ok (.i2b, 1) := by decide +kernel
theorem d8 : decode yB 8 = .ok (.ireturn, 1) := by decide +kernel
def site : List Cond := []
def tab : Cond := tabOf yN yB 2 (some .byte) site
def P (d : Addr) (B : Cell) (args : Array Value) (s : State) : Prop := args = #[.ref d, .int (Int32.ofNat B.slots.size)] ∧ Arr .byte d B s
def E (r : Option Value) (s u : State) : Prop := XT.PureE (some (.int 0)) r s u
/-- an array as long as the number of chars: LATIN1 -/
theorem law (l : Launch) (d : Addr) (B : Cell) : Law l yN 2 2 0 0 yB 2 (some .byte) site (P d B) E [] 0 0 := by
  refine Law.of_walk (plainFor_of_name (by decide +kernel)) (by decide +kernel) (by decide +kernel) (by decide) (fun _ _ h => by rw [h.1]; rfl) (fun _ U U' hal hh h => ⟨h.1, h.2.mv hal hh⟩) (fun r U U' V V' h1 hal h2 h => XT.PureE.mv r U U' V V' h1 hal h2 h) ?_
  intro p e s m args below meth c s₁ X0 hexec hbytes hml hret hlk hnm hown hh0 W hP
  obtain ⟨rfl, hB⟩ := hP
  have hB0 := hB.mv X0.warmed.alike hh0
  have c1 : Steps p.tables e below (s₁.setTop (entryFrame m #[.ref d, .int (Int32.ofNat B.slots.size)] 2)) (s₁.setTop (mkF m 0 #[.val (.ref d), .val (.int (Int32.ofNat B.slots.size))] [])) := entry rfl
  have c2 : Steps p.tables e below (s₁.setTop (entryFrame m #[.ref d, .int (Int32.ofNat B.slots.size)] 2)) (s₁.setTop (mkF m 2 #[.val (.ref d), .val (.int (Int32.ofNat B.slots.size))] [.ref d, .int (Int32.ofNat B.slots.size)])) := c1.trans (by
    refine XS.iloadN X0.here hexec rfl (hb hbytes d0) rfl ?_
    refine XS.aloadN X0.here hexec rfl (hb hbytes d1) rfl rfl ?_
    exact Steps.refl _)
  have c3 : Steps p.tables e below (s₁.setTop (entryFrame m #[.ref d, .int (Int32.ofNat B.slots.size)] 2)) (s₁.setTop (mkF m 8 #[.val (.ref d), .val (.int (Int32.ofNat B.slots.size))] [.int (lo8 (ushr (Int32.ofNat B.slots.size - Int32.ofNat B.slots.size) 31))])) := c2.trans (by
    refine X0.alen hexec hB0 rfl rfl (hb hbytes d2) ?_
    refine XS.isub X0.here hexec rfl (hb hbytes d3) rfl ?_
    refine bipushV X0.here hexec rfl 31 (hb hbytes d4) (by decide) ?_
    refine iushr X0.here hexec rfl (hb hbytes d6) rfl ?_
    refine i2b X0.here hexec rfl (hb hbytes d7) rfl ?_
    exact Steps.refl _)
  have e0 : lo8 (ushr (Int32.ofNat B.slots.size - Int32.ofNat B.slots.size) 31) = 0 := by rw [Int32.sub_self]; decide
  rw [e0] at c3
  exact ⟨s₁, some (.int 0), _, _, _, X0, rfl, rfl, rfl, (fun h => by cases h), ⟨rfl, hh0⟩, fun fs hl => c3.trans (X0.ireturnOut hexec hret rfl (Or.inr (Or.inr (Or.inl rfl))) (hb hbytes d8) hl)⟩
end CodL
/-- the String at a is Latin-1 over a new byte[] (the heap's one new cell): the low bytes of the len chars of A from o on; every cell but a is kept -/
def Got (a : Addr) (D : Cell) (fV fC : Field) (A : Cell) (o len : Nat) (r : Option Value) (s u : State) : Prop := r = none ∧ ∃ D' V : Cell, Blank "java/lang/String" a D' u ∧ Same D D' [fV.slot, fC.slot] ∧ D'.slots[fV.slot]? = some (.ref s.heap.size) ∧ D'.slots[fC.slot]? = some (.int 0) ∧ Arr .byte s.heap.size V u ∧ V.vm = .none ∧ u.vm.findClass "[B" = some V.cls ∧ V.slots.size = len ∧ (∀ j, j < len → V.slots[j]? = some (.int (lo8 (cv A (o + j))))) ∧ (∀ (y : Addr) (c : Cell), y ≠ a → s.heap[y]? = some c → u.heap[y]? = some c) ∧ u.heap.size = s.heap.size + 1
theorem Got.mv {a : Addr} {D A : Cell} {fV fC : Field} {o len : Nat} : ∀ r (U U' V V' : State), U'.heap = U.heap → V.vm.Alike V'.vm → V'.heap = V.heap → Got a D fV fC A o len r U V → Got a D fV fC A o len r U' V' :=
  fun r U U' V V' h1 hal h2 ⟨e0, D', X, a1, a2, a3, a4, a5, a6, a7, a8, a9, a10, a11⟩ => ⟨e0, D', X, a1.mv hal h2, a2, by rw [h1]; exact a3, a4, by rw [h1]; exact a5.mv hal h2, a6, by rw [hal.findClass]; exact a7, a8, a9, by rw [h1, h2]; exact a10, by rw [h1, h2]; exact a11⟩
namespace New4
def yN : MethodName := ⟨"java/lang/String", "<init>", "([CIILjava/lang/Void;)V"⟩
abbrev yB : ByteArray := jdk_42_method_149_code
theorem d0 : decode yB 0 = .ok (.aload_n 0, 1) := by decide +kernel
theorem d1 : decode yB 1 = .ok (.invokespecial 1, 3) := by decide +kernel
theorem d4 : decode yB 4 = .ok (.iload_n 3, 1) := by decide +kernel
theorem d5 : decode yB 5 = .ok (.ifCond (.ne) 22, 3) := by decide +kernel
theorem d27 : decode yB 27 = .ok (.getstatic 38, 3) := by decide +kernel
theorem d30 : decode yB 30 = .ok (.ifCond (.eq) 28, 3) := by decide +kernel
theorem d33 : decode yB 33 = .ok (.aload_n 1, 1) := by decide +kernel
theorem d34 : decode yB 34 = .ok (.iload_n 2, 1) := by decide +kernel
theorem d35 : decode yB 35 = .ok (.iload_n 3, 1) := by decide +kernel
theorem d36 : decode yB 36 = .ok (.invokestatic 177, 3) := by decide +kernel
theorem d39 : decode yB 39 = .ok (.astore 5, 2) := by decide +kernel
theorem d41 : decode yB 41 = .ok (.aload_n 0, 1) := by decide +kernel
theorem d42 : decode yB 42 = .ok (.aload 5, 2) := by decide +kernel
theorem d44 : decode yB 44 = .ok (.iload_n 3, 1) := by decide +kernel
theorem d45 : decode yB 45 = .ok (.invokestatic 47, 3) := by decide +kernel
theorem d48 : decode yB 48 = .ok (.putfield 15, 3) := by decide +kernel
theorem d51 : decode yB 51 = .ok (.aload_n 0, 1) := by decide +kernel
theorem d52 : decode yB 52 = .ok (.aload 5, 2) := by decide +kernel
theorem d54 : decode yB 54 = .ok (.putfield 9, 3) := by decide +kernel
theorem d57 : decode yB 57 = .ok (.return_, 1) := by decide +kernel
def site : List Cond := [.fieldLink "java/lang/String" 38 "java/lang/String" "COMPACT_STRINGS" "Z", Cmp3.tab, CodL.tab, .laysFinal "java/lang/String" "java/lang/String" "value" "[B", .fieldLink "java/lang/String" 9 "java/lang/String" "value" "[B", .laysFinal "java/lang/String" "java/lang/String" "coder" "B", .fieldLink "java/lang/String" 15 "java/lang/String" "coder" "B"] ++ objW "java/lang/String" 1 ++ staticW "java/lang/String" 177 Cmp3.yN ++ staticW "java/lang/String" 47 CodL.yN
def tab : Cond := tabOf yN yB 6 none site
def P (a : Addr) (D : Cell) (fV fC : Field) (b : Addr) (A : Cell) (z : Int32) (o len : Nat) (args : Array Value) (s : State) : Prop := args = #[.ref a, .ref b, .int (Int32.ofNat o), .int (Int32.ofNat len), .null] ∧ Blank "java/lang/String" a D s ∧ Found "java/lang/String" "value" "[B" fV s ∧ Found "java/lang/String" "coder" "B" fC s ∧ Ch b A s ∧ StaticIs s "java/lang/String" "COMPACT_STRINGS" "Z" (.int z) ∧ ¬ z = 0 ∧ 0 < len ∧ o + len ≤ A.slots.size ∧ len ≤ 536870912 ∧ ∀ i, i < len → ¬ 255 < cv A (o + i)
def E (a : Addr) (D : Cell) (fV fC : Field) (A : Cell) (o len : Nat) (r : Option Value) (s u : State) : Prop := Got a D fV fC A o len r s u
/-- len > 0, no char of the range above 255: a Latin-1 String of their low bytes -/
theorem law (l : Launch) (a : Addr) (D : Cell) (fV fC : Field) (b : Addr) (A : Cell) (z : Int32) (o len : Nat) : Law l yN 5 4 2 35 yB 6 none site (P a D fV fC b A z o len) (E a D fV fC A o len) [⟨a, fC.slot⟩, ⟨a, fV.slot⟩] 1 len := by
  refine Law.of_walk (plainFor_of_name (by decide +kernel)) (by decide +kernel) (by decide +kernel) (by decide) (fun _ _ h => by rw [h.1]; rfl) (fun _ U U' hal hh h => ⟨h.1, h.2.1.mv hal hh, h.2.2.1.al hal, h.2.2.2.1.al hal, h.2.2.2.2.1.mv hal hh, h.2.2.2.2.2.1.there hal hh, h.2.2.2.2.2.2⟩) (fun r U U' V V' h1 hal h2 h => Got.mv r U U' V V' h1 hal h2 h) ?_
  intro p e s m args below meth c s₁ X0 hexec hbytes hml hret hlk hnm hown hh0 W hP
  obtain ⟨rfl, hB, f1, f2, hA, s1, hz, l0, l1, l2, hp⟩ := hP
  have a31 := hA.1.2.2.2
  have c1 : Steps p.tables e below (s₁.setTop (entryFrame m #[.ref a, .ref b, .int (Int32.ofNat o), .int (Int32.ofNat len), .null] 6)) (s₁.setTop (mkF m 0 #[.val (.ref a), .val (.ref b), .val (.int (Int32.ofNat o)), .val (.int (Int32.ofNat len)), .val .null, .unset] [])) := entry rfl
  have c2 : Steps p.tables e below (s₁.setTop (entryFrame m #[.ref a, .ref b, .int (Int32.ofNat o), .int (Int32.ofNat len), .null] 6)) (s₁.setTop (mkF m 1 #[.val (.ref a), .val (.ref b), .val (.int (Int32.ofNat o)), .val (.int (Int32.ofNat len)), .val .null, .unset] [.ref a])) := c1.trans (by
    refine XS.aloadN X0.here hexec rfl (hb hbytes d0) rfl rfl ?_
    exact Steps.refl _)
  obtain ⟨T3, X3, q3, st3⟩ := X0.oinit hexec hown (wks W (objW "java/lang/String" 1)) (g := (mkF m 1 #[.val (.ref a), .val (.ref b), .val (.int (Int32.ofNat o)), .val (.int (Int32.ofNat len)), .val .null, .unset] [.ref a])) rfl (by rw [hml]; rfl) (rest := []) rfl (hb hbytes d1) (W := 0) (by show 2 * 0 + 0 ≤ _; decide) (Nat.le_of_ble_eq_true rfl) (Nat.le_of_ble_eq_true rfl)
  have hh3 := q3.trans hh0
  have c4 : Steps p.tables e below (s₁.setTop (entryFrame m #[.ref a, .ref b, .int (Int32.ofNat o), .int (Int32.ofNat len), .null] 6)) (T3.setTop (mkF m 27 #[.val (.ref a), .val (.ref b), .val (.int (Int32.ofNat o)), .val (.int (Int32.ofNat len)), .val .null, .unset] [])) := (c2.trans (st3 _ (Steps.refl _))).trans (by
    refine XS.iloadN X3.here hexec rfl (hb hbytes d4) rfl ?_
    refine XS.ifYes X3.here hexec rfl (pc0 := 5) rfl (hb hbytes d5) rfl (i0_ne_t (nz32 (by omega) l0)) (by decide) rfl ?_
    exact Steps.refl _)
  obtain ⟨T5, X5, q5, st5⟩ := X3.sget hexec hown (wk W (.fieldLink "java/lang/String" 38 "java/lang/String" "COMPACT_STRINGS" "Z")) s1 (fun _ _ h => by rw [hh3]; exact h) (g := (mkF m 27 #[.val (.ref a), .val (.ref b), .val (.int (Int32.ofNat o)), .val (.int (Int32.ofNat len)), .val .null, .unset] [])) rfl (hb hbytes d27)
  have hh5 := q5.trans hh3
  have c6 : Steps p.tables e below (s₁.setTop (entryFrame m #[.ref a, .ref b, .int (Int32.ofNat o), .int (Int32.ofNat len), .null] 6)) (T5.setTop (mkF m 30 #[.val (.ref a), .val (.ref b), .val (.int (Int32.ofNat o)), .val (.int (Int32.ofNat len)), .val .null, .unset] [.int z])) := c4.trans (st5 _ (Steps.refl _))
  have c7 : Steps p.tables e below (s₁.setTop (entryFrame m #[.ref a, .ref b, .int (Int32.ofNat o), .int (Int32.ofNat len), .null] 6)) (T5.setTop (mkF m 36 #[.val (.ref a), .val (.ref b), .val (.int (Int32.ofNat o)), .val (.int (Int32.ofNat len)), .val .null, .unset] [.int (Int32.ofNat len), .int (Int32.ofNat o), .ref b])) := c6.trans (by
    refine XS.ifNo X5.here hexec rfl (hb hbytes d30) rfl (i0_eq_f hz) ?_
    refine XS.aloadN X5.here hexec rfl (hb hbytes d33) rfl rfl ?_
    refine XS.iloadN X5.here hexec rfl (hb hbytes d34) rfl ?_
    refine XS.iloadN X5.here hexec rfl (hb hbytes d35) rfl ?_
    exact Steps.refl _)
  obtain ⟨v8, T8, X8, E8, g8⟩ := X5.callS hexec (Cmp3.law l b A o len) hown (wks W (staticW "java/lang/String" 177 Cmp3.yN)) (wk W Cmp3.tab) (W := 0) (Nat.le_of_ble_eq_true rfl) (Nat.le_of_ble_eq_true rfl) (Nat.le_refl _) (by show 0 + len ≤ len; omega) (g := (mkF m 36 #[.val (.ref a), .val (.ref b), .val (.int (Int32.ofNat o)), .val (.int (Int32.ofNat len)), .val .null, .unset] [.int (Int32.ofNat len), .int (Int32.ofNat o), .ref b])) rfl (by rw [hml]; rfl) c7 (argsL := [.ref b, .int (Int32.ofNat o), .int (Int32.ofNat len)]) (rest := []) rfl rfl (by show 2 * 0 + 0 ≤ _; decide) (hb hbytes d36) (⟨rfl, hA.mv X5.warmed.alike hh5, l1, l2, hp⟩)
  obtain ⟨e8, z8⟩ := E8
  obtain ⟨rfl, N, n1, n2, n3, n4, n5, n6⟩ := NewArr.mv _ T5 s _ _ hh5.symm (Vm.Alike.refl _) rfl e8
  rw [hh5] at z8
  have hB1 := hB.keep X8.warmed.alike (n6 _ _ hB.1)
  have hne : s.heap.size ≠ a := (Nat.ne_of_lt (Array.getElem?_eq_some_iff.mp hB.1).1).symm
  have c9 : Steps p.tables e below (s₁.setTop (entryFrame m #[.ref a, .ref b, .int (Int32.ofNat o), .int (Int32.ofNat len), .null] 6)) (T8.setTop (mkF m 39 #[.val (.ref a), .val (.ref b), .val (.int (Int32.ofNat o)), .val (.int (Int32.ofNat len)), .val .null, .unset] [.ref s.heap.size])) := g8
  have c10 : Steps p.tables e below (s₁.setTop (entryFrame m #[.ref a, .ref b, .int (Int32.ofNat o), .int (Int32.ofNat len), .null] 6)) (T8.setTop (mkF m 45 #[.val (.ref a), .val (.ref b), .val (.int (Int32.ofNat o)), .val (.int (Int32.ofNat len)), .val .null, .val (.ref s.heap.size)] [.int (Int32.ofNat N.slots.size), .ref s.heap.size, .ref a])) := by
    have hc : Steps p.tables e below (s₁.setTop (entryFrame m #[.ref a, .ref b, .int (Int32.ofNat o), .int (Int32.ofNat len), .null] 6)) (T8.setTop (mkF m 45 #[.val (.ref a), .val (.ref b), .val (.int (Int32.ofNat o)), .val (.int (Int32.ofNat len)), .val .null, .val (.ref s.heap.size)] [.int (Int32.ofNat len), .ref s.heap.size, .ref a])) := c9.trans (by
      refine XS.astore X8.here hexec rfl (hb hbytes d39) rfl rfl rfl ?_
      refine XS.aloadN X8.here hexec rfl (hb hbytes d41) rfl rfl ?_
      refine XS.aload X8.here hexec rfl (hb hbytes d42) rfl rfl ?_
      refine XS.iloadN X8.here hexec rfl (hb hbytes d44) rfl ?_
      exact Steps.refl _)
    rw [n4]; exact hc
  obtain ⟨v11, T11, X11, E11, g11⟩ := X8.callS hexec (CodL.law l s.heap.size N) hown (wks W (staticW "java/lang/String" 47 CodL.yN)) (wk W CodL.tab) (W := 1) (Nat.le_of_ble_eq_true rfl) (Nat.le_of_ble_eq_true rfl) (Nat.le_refl _) (by show 0 + len + 0 ≤ len; omega) (g := (mkF m 45 #[.val (.ref a), .val (.ref b), .val (.int (Int32.ofNat o)), .val (.int (Int32.ofNat len)), .val .null, .val (.ref s.heap.size)] [.int (Int32.ofNat N.slots.size), .ref s.heap.size, .ref a])) rfl (by rw [hml]; rfl) c10 (argsL := [.ref s.heap.size, .int (Int32.ofNat N.slots.size)]) (rest := [.ref a]) rfl rfl (by show 2 * 0 + (1 + 0) ≤ _; decide) (hb hbytes d45) (⟨rfl, n1⟩)
  obtain ⟨rfl, q11⟩ := E11
  have hB11 := hB1.mv (X8.warmed.alike.symm.trans X11.warmed.alike) q11
  have c12 : Steps p.tables e below (s₁.setTop (entryFrame m #[.ref a, .ref b, .int (Int32.ofNat o), .int (Int32.ofNat len), .null] 6)) (T11.setTop (mkF m 48 #[.val (.ref a), .val (.ref b), .val (.int (Int32.ofNat o)), .val (.int (Int32.ofNat len)), .val .null, .val (.ref s.heap.size)] [.int 0, .ref a])) := g11
  obtain ⟨T13, X13, p13, bl13, sl13, st13⟩ := X11.finit hexec hown (wk W (.fieldLink "java/lang/String" 15 "java/lang/String" "coder" "B")) (Or.inr ⟨_, (wk W (.laysFinal "java/lang/String" "java/lang/String" "coder" "B"))⟩) (Or.inl ⟨rfl, hnm⟩) f2 (Or.inl rfl) hB11 (t := .byte) (by decide +kernel) rfl (g := (mkF m 48 #[.val (.ref a), .val (.ref b), .val (.int (Int32.ofNat o)), .val (.int (Int32.ofNat len)), .val .null, .val (.ref s.heap.size)] [.int 0, .ref a])) rfl (rest := []) rfl (hb hbytes d48)
  have c14 : Steps p.tables e below (s₁.setTop (entryFrame m #[.ref a, .ref b, .int (Int32.ofNat o), .int (Int32.ofNat len), .null] 6)) (T13.setTop (mkF m 54 #[.val (.ref a), .val (.ref b), .val (.int (Int32.ofNat o)), .val (.int (Int32.ofNat len)), .val .null, .val (.ref s.heap.size)] [.ref s.heap.size, .ref a])) := (c12.trans (st13 _ (Steps.refl _))).trans (by
    refine XS.aloadN X13.here hexec rfl (hb hbytes d51) rfl rfl ?_
    refine XS.aload X13.here hexec rfl (hb hbytes d52) rfl rfl ?_
    exact Steps.refl _)
  obtain ⟨T15, X15, p15, bl15, sl15, st15⟩ := X13.finit hexec hown (wk W (.fieldLink "java/lang/String" 9 "java/lang/String" "value" "[B")) (Or.inr ⟨_, (wk W (.laysFinal "java/lang/String" "java/lang/String" "value" "[B"))⟩) (Or.inl ⟨rfl, hnm⟩) f1 (Or.inl rfl) bl13 (t := (.array .byte)) (by decide +kernel) rfl (g := (mkF m 54 #[.val (.ref a), .val (.ref b), .val (.int (Int32.ofNat o)), .val (.int (Int32.ofNat len)), .val .null, .val (.ref s.heap.size)] [.ref s.heap.size, .ref a])) rfl (rest := []) rfl (hb hbytes d54)
  have c16 : Steps p.tables e below (s₁.setTop (entryFrame m #[.ref a, .ref b, .int (Int32.ofNat o), .int (Int32.ofNat len), .null] 6)) (T15.setTop (mkF m 57 #[.val (.ref a), .val (.ref b), .val (.int (Int32.ofNat o)), .val (.int (Int32.ofNat len)), .val .null, .val (.ref s.heap.size)] [])) := c14.trans (st15 _ (Steps.refl _))
  have ap := apart (Or.inr ⟨_, (wk W (.laysFinal "java/lang/String" "java/lang/String" "value" "[B"))⟩) (Or.inr ⟨_, (wk W (.laysFinal "java/lang/String" "java/lang/String" "coder" "B"))⟩) f1 f2 (t₁ := .array .byte) (t₂ := .byte) (by decide +kernel) (by decide +kernel) (by decide)
  have al := X8.warmed.alike.symm.trans X15.warmed.alike
  have n7 : T11.heap[s.heap.size]? = some N := by rw [q11]; exact n1.1
  exact ⟨T15, none, _, _, _, X15, by simp, rfl, by omega, (fun _ => rfl), ⟨rfl, _, N, bl15, ((Same.refl D _).set _ (by simp)).set _ (by simp), sl15, (Cell.slots_setSlot_ne _ ap).trans sl13, n1.keep al (p15.other hne (p13.other hne n7)), n2, by rw [al.findClass]; exact n3, n4, n5, fun y c h1 h2 => p15.other h1 (p13.other h1 (by rw [q11]; exact n6 y c h2)), by rw [p15.2.2, p13.2.2, q11]; exact z8⟩, fun fs hl => c16.trans (X15.returnOut hexec hret (hb hbytes d57) hl)⟩
end New4
namespace New1
def yN : MethodName := ⟨"java/lang/String", "<init>", "([C)V"⟩
abbrev yB : ByteArray := jdk_42_method_3_code
theorem d0 : decode yB 0 = .ok (.aload_n 0, 1) := by decide +kernel
theorem d1 : decode yB 1 = .ok (.aload_n 1, 1) := by decide +kernel
theorem d2 : decode yB 2 = .ok (.iconst 0, 1) := by decide +kernel
theorem d3 : decode yB 3 = .ok (.aload_n 1, 1) := by decide +kernel
theorem d4 : decode yB 4 = .ok (.arraylength, 1) := by decide +kernel
theorem d5 : decode yB 5 = .ok (.aconst_null, 1) := by decide +kernel
theorem d6 : decode yB 6 = .ok (.invokespecial 27, 3) := by decide +kernel
theorem d9 : decode yB 9 = .ok (.return_, 1) := by decide +kernel
def site : List Cond := [New4.tab] ++ initW "java/lang/String" 27 New4.yN
def tab : Cond := tabOf yN yB 2 none site
def P (a : Addr) (D : Cell) (fV fC : Field) (b : Addr) (A : Cell) (z : Int32) (args : Array Value) (s : State) : Prop := args = #[.ref a, .ref b] ∧ Blank "java/lang/String" a D s ∧ Found "java/lang/String" "value" "[B" fV s ∧ Found "java/lang/String" "coder" "B" fC s ∧ Ch b A s ∧ StaticIs s "java/lang/String" "COMPACT_STRINGS" "Z" (.int z) ∧ ¬ z = 0 ∧ 0 < A.slots.size ∧ A.slots.size ≤ 536870912 ∧ ∀ i, i < A.slots.size → ¬ 255 < cv A i
def E (a : Addr) (D : Cell) (fV fC : Field) (A : Cell) (r : Option Value) (s u : State) : Prop := Got a D fV fC A 0 A.slots.size r s u
/-- new String(chars), not empty, no char above 255: a Latin-1 String of their low bytes -/
theorem law (l : Launch) (a : Addr) (D : Cell) (fV fC : Field) (b : Addr) (A : Cell) (z : Int32) : Law l yN 2 1 3 52 yB 2 none site (P a D fV fC b A z) (E a D fV fC A) [⟨a, fC.slot⟩, ⟨a, fV.slot⟩] 1 A.slots.size := by
  refine Law.of_walk (plainFor_of_name (by decide +kernel)) (by decide +kernel) (by decide +kernel) (by decide) (fun _ _ h => by rw [h.1]; rfl) (fun _ U U' hal hh h => ⟨h.1, h.2.1.mv hal hh, h.2.2.1.al hal, h.2.2.2.1.al hal, h.2.2.2.2.1.mv hal hh, h.2.2.2.2.2.1.there hal hh, h.2.2.2.2.2.2⟩) (fun r U U' V V' h1 hal h2 h => Got.mv r U U' V V' h1 hal h2 h) ?_
  intro p e s m args below meth c s₁ X0 hexec hbytes hml hret hlk hnm hown hh0 W hP
  obtain ⟨rfl, hB, f1, f2, hA, s1, hz, l0, l2, hp⟩ := hP
  have c1 : Steps p.tables e below (s₁.setTop (entryFrame m #[.ref a, .ref b] 2)) (s₁.setTop (mkF m 0 #[.val (.ref a), .val (.ref b)] [])) := entry rfl
  have c2 : Steps p.tables e below (s₁.setTop (entryFrame m #[.ref a, .ref b] 2)) (s₁.setTop (mkF m 6 #[.val (.ref a), .val (.ref b)] [.null, .int (Int32.ofNat A.slots.size), .int 0, .ref b, .ref a])) := c1.trans (by
    refine XS.aloadN X0.here hexec rfl (hb hbytes d0) rfl rfl ?_
    refine XS.aloadN X0.here hexec rfl (hb hbytes d1) rfl rfl ?_
    refine iconstV X0.here hexec rfl 0 (hb hbytes d2) (by decide) ?_
    refine XS.aloadN X0.here hexec rfl (hb hbytes d3) rfl rfl ?_
    refine X0.alen hexec (hA.1.mv X0.warmed.alike hh0) rfl rfl (hb hbytes d4) ?_
    refine XS.aconstNull X0.here hexec rfl (hb hbytes d5) ?_
    exact Steps.refl _)
  obtain ⟨v3, T3, X3, E3, g3⟩ := X0.callN hexec (New4.law l a D fV fC b A z 0 A.slots.size) rfl hown (wks W (initW "java/lang/String" 27 New4.yN)) (W New4.tab (by simp only [site, List.mem_cons, List.mem_append, true_or, or_true])) (W := 0) (Nat.le_of_ble_eq_true rfl) (Nat.le_of_ble_eq_true rfl) (Nat.le_refl _) (by show 0 + A.slots.size ≤ A.slots.size; omega) (g := (mkF m 6 #[.val (.ref a), .val (.ref b)] [.null, .int (Int32.ofNat A.slots.size), .int (Int32.ofNat 0), .ref b, .ref a])) rfl (by rw [hml]; rfl) c2 (argsL := [.ref b, .int (Int32.ofNat 0), .int (Int32.ofNat A.slots.size), .null]) (rest := []) rfl rfl (by show 2 * 0 + 0 ≤ _; decide) (hb hbytes d6) (⟨rfl, hB.mv X0.warmed.alike hh0, f1.al X0.warmed.alike, f2.al X0.warmed.alike, hA.mv X0.warmed.alike hh0, s1.there X0.warmed.alike hh0, hz, l0, by omega, l2, fun i hi => by rw [Nat.zero_add]; exact hp i hi⟩)
  have e0 := Got.mv _ s₁ s _ _ hh0.symm (Vm.Alike.refl _) rfl E3
  obtain rfl := e0.1
  have c4 : Steps p.tables e below (s₁.setTop (entryFrame m #[.ref a, .ref b] 2)) (T3.setTop (mkF m 9 #[.val (.ref a), .val (.ref b)] [])) := g3
  exact ⟨T3, none, _, _, _, X3, by simp, rfl, by omega, (fun _ => rfl), e0, fun fs hl => c4.trans (X3.returnOut hexec hret (hb hbytes d9) hl)⟩
theorem pays {l : Launch} {R : Room} {p : Program} {e : Env} {below : List Frame} {s : State} {sargs : Array Value} {len W : Nat} (a : Addr) (D : Cell) (fV fC : Field) (b : Addr) (A : Cell) (z : Int32) (htab : tab.before sargs s = true) (hfr : 4 ≤ R.frames) (hlo : W + 65 ≤ R.locals) :
    Back l R p e below s sargs yN len W (fun A₁ a₁ => A₁.cells + 1 ≤ R.cells ∧ A₁.slots + A.slots.size ≤ R.slots ∧ P a D fV fC b A z a₁ A₁.U) (fun A₁ _ v₁ B₁ => E a D fV fC A v₁ A₁.U B₁.U ∧ B₁.locs = A₁.locs ++ [⟨a, fC.slot⟩, ⟨a, fV.slot⟩] ∧ B₁.cells = A₁.cells + 1 ∧ B₁.slots = A₁.slots + A.slots.size) :=
  (law l a D fV fC b A z).pays htab hfr (by omega)
end New1
/-- the byte, read back as charAt reads it, is the char -/
theorem lo8_mask {x : Int32} (h0 : ¬ x < 0) (h1 : ¬ 255 < x) : lo8 x &&& 255 = x := by
  have t : ∀ k : Fin 256, lo8 (Int32.ofNat k.val) &&& 255 = Int32.ofNat k.val := by decide +kernel
  rw [Int32.lt_iff_toInt_lt] at h0 h1
  have e0 : (0 : Int32).toInt = 0 := rfl
  have e1 : (255 : Int32).toInt = 255 := rfl
  obtain ⟨k, hk⟩ : ∃ k : Nat, x.toInt = k := ⟨x.toInt.toNat, by omega⟩
  have hx : x = Int32.ofNat k := Int32.toInt_inj.mp (by rw [hk, Int32.toInt_ofNat_small (by omega)])
  rw [hx]
  exact t ⟨k, by omega⟩
end StrChars
namespace StrChars.Road
open Jvm Sem ClassFile Op Lib Jvm.Stand Jvm.Free Jvm.Free.XT
open Jvm.Lib.Cold (StaticIs)
abbrev ST : String := "java/lang/String"
/-- every table word that New1's law asks, flat -/
abbrev words : List Jvm.Cond := [.code New1.yN New1.yB 2 none, .initialized ST, .methodLink ST 27 New4.yN, .instanceMethod New4.yN,
  .code New4.yN New4.yB 6 none, .fieldLink ST 38 ST "COMPACT_STRINGS" "Z", .laysFinal ST ST "value" "[B", .fieldLink ST 9 ST "value" "[B", .laysFinal ST ST "coder" "B", .fieldLink ST 15 ST "coder" "B",
  .methodLink ST 1 Lib.objectInit, .instanceMethod Lib.objectInit, .code Lib.objectInit ⟨#[0xb1]⟩ 1 none, .methodLink ST 177 Cmp3.yN, .static Cmp3.yN, .methodLink ST 47 CodL.yN, .static CodL.yN,
  .code Cmp3.yN Cmp3.yB 6 (some (.array .byte)), .initialized U16, .arrayClass .byte, .methodLink U16 115 Cmp5.yN, .static Cmp5.yN, .code Cmp5.yN Cmp5.yB 7 (some .int), .code CodL.yN CodL.yB 2 (some .byte)]
theorem tab_of {a : Array Value} {s : State} (h : ∀ w ∈ words, w.before a s = true) : New1.tab.before a s = true := by
  have h5 : Cmp5.tab.before a s = true := unparts (wk h (.code Cmp5.yN Cmp5.yB 7 (some .int))) (wks h (.initialized Cmp5.yN.cls :: Cmp5.site))
  have hc : CodL.tab.before a s = true := unparts (wk h (.code CodL.yN CodL.yB 2 (some .byte))) (wks h (.initialized CodL.yN.cls :: CodL.site))
  have q5 : ∀ w ∈ Cmp5.tab :: words, w.before a s = true := fun w hw => (List.mem_cons.mp hw).elim (fun e => e ▸ h5) (h w)
  have h3 : Cmp3.tab.before a s = true := unparts (wk q5 (.code Cmp3.yN Cmp3.yB 6 (some (.array .byte)))) (wks q5 (.initialized Cmp3.yN.cls :: Cmp3.site))
  have q3 : ∀ w ∈ Cmp3.tab :: CodL.tab :: words, w.before a s = true := fun w hw => (List.mem_cons.mp hw).elim (fun e => e ▸ h3) fun hw => (List.mem_cons.mp hw).elim (fun e => e ▸ hc) (h w)
  have h4 : New4.tab.before a s = true := unparts (wk q3 (.code New4.yN New4.yB 6 none)) (wks q3 (.initialized New4.yN.cls :: New4.site))
  have q4 : ∀ w ∈ New4.tab :: words, w.before a s = true := fun w hw => (List.mem_cons.mp hw).elim (fun e => e ▸ h4) (h w)
  exact unparts (wk q4 (.code New1.yN New1.yB 2 none)) (wks q4 (.initialized New1.yN.cls :: New1.site))
/-- the words ride from the start Z to the walk's own state -/
theorem moved {Z s : State} {a0 args : Array Value} (hZ : Z.Warmed39 s.vm) (hw : ∀ d ∈ words, d.before a0 Z = true) : ∀ d ∈ words, d.before args s = true := fun d hd => by
  have q := hw d hd
  have t : ∀ d ∈ words, d = .arrayClass .byte ∨ (d.onTables && d.keepsFace) = true := by decide +kernel
  rcases t d hd with rfl | t
  · exact RoadKit.mvA hZ q
  · exact RoadKit.mv hZ q t
/-- WHAT COMES BACK, over the tables of the start Z: h the heap at the call, h' behind it -/
def Q (Z : State) (x : Addr) (A : Cell) (h : Heap) (v : Option Value) (h' : Heap) (L : List Loc) : Prop := v = none ∧ (∀ y ∈ L, y.base = x) ∧ RoadKit.Keep h h' [x] ∧ h'.size = h.size + 1 ∧ RoadKit.Exa Z h' x ST ∧ RoadKit.Fld Z h' x ST "value" "[B" (.ref h.size) ∧ RoadKit.Fld Z h' x ST "coder" "B" (.int 0) ∧
  (∃ V : Cell, RoadKit.Arr Z h' h.size V .byte ∧ V.vm = .none ∧ Z.vm.findClass "[B" = some V.cls ∧ V.slots.size = A.slots.size ∧ ∀ j, j < A.slots.size → V.slots[j]? = some (.int (lo8 (cv A j)))) ∧
  ∀ (O n d : String) (w : Value), RoadKit.Fld Z h x O n d w → RoadKit.slotOf Z O n d ≠ RoadKit.slotOf Z ST "value" "[B" → RoadKit.slotOf Z O n d ≠ RoadKit.slotOf Z ST "coder" "B" → RoadKit.Fld Z h' x O n d w
/-- **new String(chars) AT A CALL, IN THE ROAD'S FORM**: for specialBack behind newO: x the fresh String, b the char[] with the cell A -/
theorem back {p : Program} {l : Launch} {e : Env} {R : Room} {s : State} {args : Array Value} {below : List Frame} {len W : Nat} {Z : State} {a0 : Array Value} {h : Heap} (hZ : Z.Warmed39 s.vm) (hw : ∀ d ∈ words, d.before a0 Z = true) {kI : Nat} (wi : (Jvm.Cond.instantiable ST kI).before a0 Z = true)
    {x b : Addr} {A : Cell} {z : Int32} {v0 c0 : Value} (E : RoadKit.Exa Z h x ST) (V : RoadKit.Fld Z h x ST "value" "[B" v0) (C : RoadKit.Fld Z h x ST "coder" "B" c0) (K : RoadKit.Arr Z h b A .char) (hty : Typed .char A) (S : RoadKit.Sta Z h ST "COMPACT_STRINGS" "Z" (.int z)) (hz : ¬ z = 0)
    (l0 : 0 < A.slots.size) (l2 : A.slots.size ≤ 536870912) (hp : ∀ i, i < A.slots.size → ¬ 255 < cv A i) (hfr : 4 ≤ R.frames) (hlo : W + 65 ≤ R.locals) :
    Back l R p e below s args New1.yN len W (fun P a => a = #[.ref x, .ref b] ∧ P.U.heap = h ∧ P.cells + 1 ≤ R.cells ∧ P.slots + A.slots.size ≤ R.slots)
      (fun P _ v B => ∃ L, Q Z x A h v B.U.heap L ∧ B.locs = P.locs ++ L ∧ B.cells = P.cells + 1 ∧ B.slots = P.slots + A.slots.size) := by
  intro m meth c P g ig mk a X hg hsize hdg hW hn hp'
  obtain ⟨rfl, rfl, r1, r2⟩ := hp'
  have al : Z.vm.Alike P.U.vm := hZ.alike.trans X.warmed.alike
  obtain ⟨D, cfV, kV, iV, fV, hD, gV, stV, knV, obV, asV, slV⟩ := id V
  obtain ⟨D', cfC, kC, iC, fC, hD', gC, stC, -, -, asC, slC⟩ := id C
  cases hD.symm.trans hD'
  obtain ⟨D2, kD, e1, e2, e3, e4, e5⟩ := id E
  cases hD.symm.trans e1
  obtain ⟨c2, k2, i1, i2, i3, -⟩ := Cond.instantiable_spec wi
  cases e2.symm.trans i1
  cases e3.symm.trans i2
  obtain ⟨kU, u1, u2⟩ := al.2.2 _ _ e3
  have hB : Blank ST x D P.U := ⟨hD, ⟨knV, fun q hq => by rw [hq] at obV; cases obV⟩, by rw [al.findClass]; exact e2, kU, u1, by rw [u2]; exact i3, by rw [u2]; exact e5 i3⟩
  have F1 : Found ST "value" "[B" fV P.U := ⟨SBG.found_only al ⟨cfV, kV, iV, gV⟩, stV⟩
  have F2 : Found ST "coder" "B" fC P.U := ⟨SBG.found_only al ⟨cfC, kC, iC, gC⟩, stC⟩
  have hA : Ch b A P.U := ⟨⟨K.1, State.isArrayOf_alike al K.2.1, K.2.2, by omega⟩, hty⟩
  have hS : StaticIs P.U ST "COMPACT_STRINGS" "Z" (.int z) := by
    obtain ⟨cfS, iS, kS, fS, st, cS, t1, t2, t3, t4, t5, t6, t7⟩ := S
    exact StaticIs.there (s := { Z with heap := P.U.heap }) ⟨cfS, iS, kS, fS, st, cS, t1, t2, t3, t4, t5, (fun q => by rw [q] at t6; cases t6), t7⟩ al rfl
  obtain ⟨v, B, X', ⟨⟨hv, E', V', q1, q2, q3, q4, q5, q6, q7, q8, q9, q10, q11⟩, hl, hc, hs⟩, st⟩ := New1.pays x D fV fC b A z (tab_of (moved hZ hw)) hfr hlo m meth c P g ig mk _ X hg hsize hdg hW hn ⟨r1, r2, rfl, hB, F1, F2, hA, hS, hz, l0, l2, hp⟩
  have al' : Z.vm.Alike B.U.vm := hZ.alike.trans X'.warmed.alike
  have hsz : E'.slots.size = D.slots.size := by
    obtain ⟨-, -, -, kB, w1, w2, w3⟩ := q1
    obtain ⟨kB', y1, y2⟩ := al'.2.2 _ _ e3
    rw [q2.2.1] at w1
    cases w1.symm.trans y1
    rw [w3, e5 i3, y2]
  refine ⟨v, B, X', ⟨_, ⟨hv, ?_, ⟨by omega, fun y cy hy hn' => q10 y cy (by simpa using hn') hy, fun y cy hy => ?_⟩, q11, ⟨E', _, q1.1, by rw [q2.2.1]; exact e2, by rw [q2.2.1]; exact e3, by rw [q2.1]; exact obV, fun _ => by rw [hsz]; exact e5 i3⟩,
    ⟨E', cfV, kV, iV, fV, q1.1, gV, stV, by rw [q2.1]; exact knV, by rw [q2.1]; exact obV, by rw [q2.2.1]; exact asV, q3⟩, ⟨E', cfC, kC, iC, fC, q1.1, gC, stC, by rw [q2.1]; exact knV, by rw [q2.1]; exact obV, by rw [q2.2.1]; exact asC, q4⟩,
    ⟨V', ⟨q5.1, State.isArrayOf_alike al'.symm q5.2.1, q5.2.2.1⟩, q6, by rw [← al'.findClass]; exact q7, q8, fun j hj => by have := q9 j hj; rwa [Nat.zero_add] at this⟩, fun O n d w F n1 n2 => ?_⟩, hl, hc, hs⟩, st⟩
  · intro y hy
    simp only [List.mem_cons, List.not_mem_nil, or_false] at hy
    rcases hy with rfl | rfl <;> rfl
  · by_cases q : y = x
    · subst q
      cases hD.symm.trans hy
      exact ⟨E', q1.1, q2.2.1, q2.1, hsz⟩
    · exact ⟨cy, q10 y cy q hy, rfl, rfl, rfl⟩
  · obtain ⟨D3, cf, k, i, f, g1, g2, g3, g4, g5, g6, g7⟩ := F
    cases hD.symm.trans g1
    simp only [RoadKit.slotOf, g2, gV, gC, Option.map_some, Option.getD_some] at n1 n2
    exact ⟨E', cf, k, i, f, q1.1, g2, g3, by rw [q2.1]; exact g4, by rw [q2.1]; exact g5, by rw [q2.2.1]; exact g6, by rw [q2.2.2 f.slot (by simp [n1, n2])]; exact g7⟩
end StrChars.Road
namespace StrChars.Road
open Jvm Sem ClassFile Op Lib Jvm.Stand Jvm.Free Jvm.Free.XT
/-- WHAT COMES BACK, the byte[] as a list of values -/
def QA (Z : State) (x : Addr) (zn : Int32) (cs : List Int32) (h : Heap) (v : Option Value) (h' : Heap) (L : List Loc) : Prop := v = none ∧ (∀ y ∈ L, y.base = x) ∧ RoadKit.Keep h h' [x] ∧ h'.size = h.size + 1 ∧ RoadKit.Exa Z h' x ST ∧ RoadKit.Fld Z h' x ST "value" "[B" (.ref h.size) ∧ RoadKit.Fld Z h' x ST "coder" "B" (.int 0) ∧
  (∃ kb, Z.vm.findClass "[B" = some kb ∧ RoadKit.Arv Z h' h.size kb .byte zn (cs.map fun c => .int (lo8 c)) (.int 0)) ∧
  ∀ (O n d : String) (w : Value), RoadKit.Fld Z h x O n d w → RoadKit.slotOf Z O n d ≠ RoadKit.slotOf Z ST "value" "[B" → RoadKit.slotOf Z O n d ≠ RoadKit.slotOf Z ST "coder" "B" → RoadKit.Fld Z h' x O n d w
/-- **new String(chars) AT A CALL, THE ARRAYS AS LISTS**: the char[] at b holds cs, not empty, no char above 255 -/
theorem backArv {p : Program} {l : Launch} {e : Env} {R : Room} {s : State} {args : Array Value} {below : List Frame} {len W : Nat} {Z : State} {a0 : Array Value} {h : Heap} (hZ : Z.Warmed39 s.vm) (hw : ∀ d ∈ words, d.before a0 Z = true) {kI : Nat} (wi : (Jvm.Cond.instantiable ST kI).before a0 Z = true)
    {x b : Addr} {k : ClassId} {zn z : Int32} {cs : List Int32} {dv v0 c0 : Value} (E : RoadKit.Exa Z h x ST) (V : RoadKit.Fld Z h x ST "value" "[B" v0) (C : RoadKit.Fld Z h x ST "coder" "B" c0) (K : RoadKit.Arv Z h b k .char zn (cs.map Value.int) dv) (S : RoadKit.Sta Z h ST "COMPACT_STRINGS" "Z" (.int z)) (hz : ¬ z = 0)
    (hlen : zn.toNatClampNeg = cs.length) (h0 : 0 < cs.length) (hbig : cs.length ≤ 536870912) (hall : ∀ c ∈ cs, ¬ 255 < c) (hfr : 4 ≤ R.frames) (hlo : W + 65 ≤ R.locals) :
    Back l R p e below s args New1.yN len W (fun P a => a = #[.ref x, .ref b] ∧ P.U.heap = h ∧ P.cells + 1 ≤ R.cells ∧ P.slots + cs.length ≤ R.slots)
      (fun P _ v B => ∃ L, QA Z x zn cs h v B.U.heap L ∧ B.locs = P.locs ++ L ∧ B.cells = P.cells + 1 ∧ B.slots = P.slots + cs.length) := by
  obtain ⟨A, K1, K2, K3, K4, K5, K6⟩ := K
  have e : A.slots.size = cs.length := K3.trans hlen
  have hat : ∀ (i : Nat) (hi : i < cs.length), A.slots[i]? = some (.int cs[i]) := fun i hi => by rw [K5 i (by omega)]; simp [List.getD_eq_getElem?_getD, hi]
  have hcv : ∀ (i : Nat) (hi : i < cs.length), cv A i = cs[i] := fun i hi => by unfold cv; rw [hat i hi]
  have hty : Typed .char A := fun i v hv => by
    have hi : i < A.slots.size := (Array.getElem?_eq_some_iff.mp hv).1
    have q := K5 i hi
    rw [hv] at q
    rw [Option.some.inj q]
    exact K6 i hi
  refine Back.mono (back hZ hw wi E V C K1 hty S hz (by omega) (by omega) (fun i hi => by rw [hcv i (by omega)]; exact hall _ (List.getElem_mem _)) hfr hlo) (fun P a hp => ⟨hp.1, hp.2.1, hp.2.2.1, by rw [e]; exact hp.2.2.2⟩) (fun P a v B hp hq => ?_)
  obtain ⟨L, ⟨q1, q2, q3, q4, q5, q6, q7, ⟨V', v1, v2, v3, v4, v5⟩, q9⟩, hl, hc, hs⟩ := hq
  refine ⟨L, ⟨q1, q2, q3, q4, q5, q6, q7, ⟨V'.cls, v3, V', v1, rfl, by rw [v4, e, hlen], K4, fun i hi => ?_, fun i hi => ?_⟩, q9⟩, hl, hc, by rw [hs, e]⟩
  · have hi' : i < cs.length := by omega
    rw [v5 i (by omega), hcv i hi']; simp [List.getD_eq_getElem?_getD, hi']
  · have hi' : i < cs.length := by omega
    simp only [List.getD_eq_getElem?_getD, List.getElem?_map, List.getElem?_eq_getElem hi', Option.map_some, Option.getD_some]
    exact fits_lo8 _
end StrChars.Road
namespace StrChars.Road
open Jvm Sem ClassFile Op Lib Jvm.Stand Jvm.Free Jvm.Free.XT
/-- WHAT COMES BACK, in the writer's own shape -/
def QV (Z : State) (x : Addr) (N : Int32) (bs : List Int32) (h : Heap) (n0 : Nat) (v : Option Value) (h' : Heap) (L : List Loc) : Prop := v = none ∧ RoadKit.Fr n0 L ∧ RoadKit.Keep h h' [x] ∧ RoadKit.Exa Z h' x ST ∧ RoadKit.Fld Z h' x ST "coder" "B" (.int 0) ∧
  ∃ (t : Addr) (kb : ClassId), n0 ≤ t ∧ h.size ≤ t ∧ ¬ t = x ∧ RoadKit.Fld Z h' x ST "value" "[B" (.ref t) ∧ RoadKit.Arv Z h' t kb .byte N (bs.map Value.int) (.int 0)
/-- **new String(chars) AT A CALL, FOR THE WRITER**: a char[] of n known ints, each 0 to 255 -/
theorem backV {p : Program} {l : Launch} {e : Env} {R : Room} {s : State} {args : Array Value} {below : List Frame} {len W : Nat} {Z : State} {a0 : Array Value} {h : Heap} (hZ : Z.Warmed39 s.vm) (hw : ∀ d ∈ words, d.before a0 Z = true) {kI : Nat} (wi : (Jvm.Cond.instantiable ST kI).before a0 Z = true)
    {x b : Addr} {kC : ClassId} {cs bs : List Int32} {d v0 c0 : Value} {z N : Int32} {n n0 : Nat} (hx0 : n0 ≤ x) (hh0 : n0 ≤ h.size) (E : RoadKit.Exa Z h x ST) (V : RoadKit.Fld Z h x ST "value" "[B" v0) (C : RoadKit.Fld Z h x ST "coder" "B" c0) (K : RoadKit.Arv Z h b kC .char N (cs.map Value.int) d) (S : RoadKit.Sta Z h ST "COMPACT_STRINGS" "Z" (.int z)) (hz : ¬ z = 0)
    (hn : cs.length = n) (hN : N = Int32.ofNat n) (l0 : 0 < n) (l2 : n ≤ 4000) (hp : ∀ c ∈ cs, ¬ c < 0 ∧ ¬ (255 : Int32) < c) (hb : bs = cs.map (fun c => c.toInt8.toInt32)) (hfr : 4 ≤ R.frames) (hlo : W + 65 ≤ R.locals) :
    Back l R p e below s args (⟨"java/lang/String", "<init>", "([C)V"⟩ : MethodName) len W (fun P a => a = #[.ref x, .ref b] ∧ P.U.heap = h ∧ P.cells + 1 ≤ R.cells ∧ P.slots + n ≤ R.slots)
      (fun P _ v B => ∃ L, QV Z x N bs h n0 v B.U.heap L ∧ B.locs = P.locs ++ L ∧ B.cells = P.cells + 1 ∧ B.slots = P.slots + n) := by
  subst hn hN hb
  refine Back.mono (backArv hZ hw wi E V C K S hz (n32 (by omega)) l0 (by omega) (fun c hc => (hp c hc).2) hfr hlo) (fun P a hp => hp) (fun P a v B hp hq => ?_)
  obtain ⟨L, ⟨q1, q2, q3, q4, q5, q6, q7, ⟨kb, v1, v2⟩, q9⟩, hl, hc, hs⟩ := hq
  exact ⟨L, ⟨q1, fun y hy => by rw [q2 y hy]; exact hx0, q3, q5, q7, h.size, kb, hh0, Nat.le_refl _, Nat.ne_of_gt E.lt, q6, by rw [List.map_map]; exact v2⟩, hl, hc, hs⟩
end StrChars.Road
namespace StrChars
open Jvm Sem ClassFile Op Lib Jvm.Stand Jvm.Free.XT Jvm.Free.ALB Jvm.Free.JM Jvm.Free
open Jvm.Lib.Cold (StaticIs)
def hi8 (x : Int32) : Int32 := lo8 (x >>> ((8 : Int32) &&& 31))
/-- what StringUTF16.getChar makes of two bytes -/
def pairCh (u v : Int32) : Int32 := (((u &&& 255) <<< ((0 : Int32) &&& 31)) ||| ((v &&& 255) <<< ((8 : Int32) &&& 31))).toUInt32.toUInt16.toUInt32.toInt32
theorem shr0 (c : Int32) : c >>> ((0 : Int32) &&& 31) = c := by
  have e : ((0 : Int32) &&& 31) = 0 := by decide
  rw [e]
  apply Int32.toBitVec_inj.mp
  rw [Int32.toBitVec_shiftRight]
  have e1 : ((0 : Int32).toBitVec.smod 32) = 0#32 := by decide
  rw [e1, BitVec.sshiftRight_eq']
  exact BitVec.sshiftRight_zero
theorem lo8_and (x : Int32) : (lo8 x &&& 255).toBitVec.toNat = x.toBitVec.toNat % 256 := by
  have h : (lo8 x).toBitVec = (x.toBitVec.signExtend 8).signExtend 32 := by rw [lo8, Int8.toBitVec_toInt32, Int32.toBitVec_toInt8]
  rw [Int32.toBitVec_and, BitVec.toNat_and, h]
  have e : ((x.toBitVec.signExtend 8).signExtend 32).toNat % 256 = x.toBitVec.toNat % 256 := by
    rw [BitVec.toNat_signExtend]
    have hlt := x.toBitVec.isLt
    simp only [BitVec.toNat_setWidth, BitVec.toNat_signExtend]
    split <;> split <;> omega
  rw [← e]
  exact Nat.and_two_pow_sub_one_eq_mod _ 8
theorem pair_says {c : Int32} (h0 : ¬ c < 0) (h1 : ¬ 65535 < c) : pairCh (lo8 c) (hi8 c) = c := by
  rw [Int32.lt_iff_toInt_lt] at h0 h1
  have e0 : (0 : Int32).toInt = 0 := rfl
  have e1 : (65535 : Int32).toInt = 65535 := rfl
  have hc : c.toInt = c.toBitVec.toNat := by
    have := c.toBitVec.isLt
    have e : c.toInt = c.toBitVec.toInt := rfl
    rw [e] at h0 h1
    rw [e]
    rw [BitVec.toInt_eq_toNat_cond] at h0 h1 ⊢
    split at h0 <;> split <;> omega
  have hn : c.toBitVec.toNat < 65536 := by omega
  have a1 := lo8_and c
  have a2 : (hi8 c &&& 255).toBitVec.toNat = c.toBitVec.toNat / 256 := by
    rw [hi8, lo8_and]
    have e : ((8 : Int32) &&& 31) = 8 := by decide
    rw [e, Int32.toBitVec_shiftRight]
    have e2 : ((8 : Int32).toBitVec.smod 32) = 8#32 := by decide
    rw [e2, BitVec.sshiftRight_eq', BitVec.toNat_sshiftRight_of_msb_false (by rw [BitVec.msb_eq_false_iff_two_mul_lt]; omega)]
    show c.toBitVec.toNat >>> 8 % 256 = _
    rw [Nat.shiftRight_eq_div_pow]
    omega
  unfold pairCh
  apply Int32.toBitVec_inj.mp
  apply BitVec.eq_of_toNat_eq
  have f0 : ((0 : Int32) &&& 31) = 0 := by decide
  have f8 : ((8 : Int32) &&& 31) = 8 := by decide
  rw [f0, f8]
  have g : (((lo8 c &&& 255) <<< (0 : Int32)) ||| ((hi8 c &&& 255) <<< (8 : Int32))).toBitVec.toNat = c.toBitVec.toNat := by
    rw [Int32.toBitVec_or, Int32.toBitVec_shiftLeft, Int32.toBitVec_shiftLeft]
    have s0 : ((0 : Int32).toBitVec.smod 32) = 0#32 := by decide
    have s8 : ((8 : Int32).toBitVec.smod 32) = 8#32 := by decide
    rw [s0, s8, BitVec.toNat_or]
    simp only [BitVec.shiftLeft_eq', BitVec.toNat_shiftLeft, a1, a2]
    show (c.toBitVec.toNat % 256) <<< 0 % 2 ^ 32 ||| (c.toBitVec.toNat / 256) <<< 8 % 2 ^ 32 = _
    rw [Nat.shiftLeft_zero, Nat.mod_eq_of_lt (show c.toBitVec.toNat % 256 < 2 ^ 32 by omega), Nat.mod_eq_of_lt (show (c.toBitVec.toNat / 256) <<< 8 < 2 ^ 32 by rw [Nat.shiftLeft_eq]; omega), Nat.or_comm, ← Nat.shiftLeft_add_eq_or_of_lt (by omega), Nat.shiftLeft_eq]
    omega
  show BitVec.toNat (((((lo8 c &&& 255) <<< (0 : Int32)) ||| ((hi8 c &&& 255) <<< (8 : Int32))).toBitVec.setWidth 16).setWidth 32) = _
  rw [BitVec.toNat_setWidth, BitVec.toNat_setWidth, g]
  omega
end StrChars
namespace StrChars
open Jvm Sem ClassFile Op Lib Jvm.Stand Jvm.Free.XT Jvm.Free.ALB Jvm.Free.JM Jvm.Free
open Jvm.Lib.Cold (StaticIs)
theorem shr1 {n : Nat} (h : 2 * n < 2 ^ 31) : Int32.ofNat (2 * n) >>> ((1 : Int32) &&& 31) = Int32.ofNat n := by
  have e : ((1 : Int32) &&& 31) = 1 := by decide
  rw [e]
  apply Int32.toBitVec_inj.mp
  rw [Int32.toBitVec_shiftRight]
  have e1 : ((1 : Int32).toBitVec.smod 32) = 1#32 := by decide
  have hm : (BitVec.ofNat 32 (2 * n)).toNat = 2 * n := by rw [BitVec.toNat_ofNat, Nat.mod_eq_of_lt (by omega)]
  rw [e1, BitVec.sshiftRight_eq']
  apply BitVec.eq_of_toNat_eq
  show ((BitVec.ofNat 32 (2 * n)).sshiftRight 1).toNat = (BitVec.ofNat 32 n).toNat
  rw [BitVec.toNat_sshiftRight_of_msb_false (by rw [BitVec.msb_eq_false_iff_two_mul_lt, hm]; omega), hm, BitVec.toNat_ofNat, Nat.shiftRight_eq_div_pow]
  omega
/-- charAt's cast of a byte read back -/
def chr8 (u : Int32) : Int32 := (u &&& 255).toUInt32.toUInt16.toUInt32.toInt32
theorem chr8_lo8 {c : Int32} (h0 : ¬ c < 0) (h1 : ¬ 255 < c) : chr8 (lo8 c) = c := by
  have t : ∀ k : Fin 256, (Int32.ofNat k.val).toUInt32.toUInt16.toUInt32.toInt32 = Int32.ofNat k.val := by decide +kernel
  unfold chr8
  rw [lo8_mask h0 h1]
  rw [Int32.lt_iff_toInt_lt] at h0 h1
  have e0 : (0 : Int32).toInt = 0 := rfl
  have e1 : (255 : Int32).toInt = 255 := rfl
  obtain ⟨k, hk⟩ : ∃ k : Nat, c.toInt = k := ⟨c.toInt.toNat, by omega⟩
  have hx : c = Int32.ofNat k := Int32.toInt_inj.mp (by rw [hk, Int32.toInt_ofNat_small (by omega)])
  rw [hx]
  exact t ⟨k, by omega⟩
theorem narrow_ch {c : Int32} (h0 : ¬ c < 0) (h1 : ¬ 65535 < c) : narrow .char (.int c) = .int c := by
  have q : narrow .char (.int (pairCh (lo8 c) (hi8 c))) = .int (pairCh (lo8 c) (hi8 c)) := narrow_c _
  rwa [pair_says h0 h1] at q
/-- the array's cell V codes the n chars f 0 .. f (n - 1) by the coder cd, as the JDK does: coder 1 just where some char is above 255 -/
def Cod (cd : Int32) (n : Nat) (f : Nat → Int32) (V : Cell) : Prop := (cd = 0 ∧ V.slots.size = n ∧ ∀ j, j < n → V.slots[j]? = some (.int (lo8 (f j))) ∧ ¬ 255 < f j) ∨ (cd = 1 ∧ V.slots.size = 2 * n ∧ (∀ j, j < n → V.slots[2 * j]? = some (.int (lo8 (f j))) ∧ V.slots[2 * j + 1]? = some (.int (hi8 (f j)))) ∧ ∃ j, j < n ∧ 255 < f j)
theorem Cod.cd {cd : Int32} {n : Nat} {f : Nat → Int32} {V : Cell} (h : Cod cd n f V) : cd = 0 ∨ cd = 1 := h.imp (fun q => q.1) fun q => q.1
theorem Cod.len {cd : Int32} {n : Nat} {f : Nat → Int32} {V : Cell} (h : Cod cd n f V) (hs : V.slots.size < 2 ^ 31) : Int32.ofNat V.slots.size >>> (cd &&& 31) = Int32.ofNat n := by
  rcases h with ⟨rfl, h, -⟩ | ⟨rfl, h, -⟩
  · rw [shr0, h]
  · rw [h, shr1 (by omega)]
/-- **x is a String of the n chars f 0 .. f (n - 1)**, Latin-1 or UTF-16; its array at t has the cell V -/
def Txt (x t : Addr) (V : Cell) (cd : Int32) (n : Nat) (f : Nat → Int32) (U : State) : Prop := Exact "java/lang/String" x U ∧ Has x "java/lang/String" "value" "[B" (.ref t) U ∧ Has x "java/lang/String" "coder" "B" (.int cd) U ∧ XT.Arr .byte t V U ∧ Cod cd n f V ∧ ∀ j, j < n → ¬ f j < 0 ∧ ¬ 65535 < f j
theorem Txt.mv {x t : Addr} {V : Cell} {cd : Int32} {n : Nat} {f : Nat → Int32} {U U' : State} (h : Txt x t V cd n f U) (hal : U.vm.Alike U'.vm) (hh : U'.heap = U.heap) : Txt x t V cd n f U' := ⟨h.1.mv hal hh, h.2.1.mv hal hh, h.2.2.1.mv hal hh, h.2.2.2.1.mv hal hh, h.2.2.2.2⟩
namespace Cdr
def yN : MethodName := ⟨"java/lang/String", "coder", "()B"⟩
abbrev yB : ByteArray := jdk_42_method_152_code
theorem d0 : decode yB 0 = .ok (.getstatic 38, 3) := by decide +kernel
theorem d3 : decode yB 3 = .ok (.ifCond (.eq) 10, 3) := by decide +kernel
theorem d6 : decode yB 6 = .ok (.aload_n 0, 1) := by decide +kernel
theorem d7 : decode yB 7 = .ok (.getfield 15, 3) := by decide +kernel
theorem d10 : decode yB 10 = .ok (.goto 4, 3) := by decide +kernel
theorem d14 : decode yB 14 = .ok (.ireturn, 1) := by decide +kernel
def site : List Cond := [.fieldLink "java/lang/String" 38 "java/lang/String" "COMPACT_STRINGS" "Z", .fieldLink "java/lang/String" 15 "java/lang/String" "coder" "B"]
def tab : Cond := tabOf yN yB 1 (some .byte) site
def P (x : Addr) (cd z : Int32) (args : Array Value) (s : State) : Prop := args = #[.ref x] ∧ Has x "java/lang/String" "coder" "B" (.int cd) s ∧ (cd = 0 ∨ cd = 1) ∧ StaticIs s "java/lang/String" "COMPACT_STRINGS" "Z" (.int z) ∧ ¬ z = 0
def E (cd : Int32) (r : Option Value) (s u : State) : Prop := XT.PureE (some (.int cd)) r s u
theorem law (l : Launch) (x : Addr) (cd z : Int32) : Law l yN 1 0 0 0 yB 1 (some .byte) site (P x cd z) (E cd) [] 0 0 := by
  refine Law.of_walk (plainFor_of_name (by decide +kernel)) (by decide +kernel) (by decide +kernel) (by decide) (fun _ _ h => by rw [h.1]; rfl) (fun _ U U' hal hh h => ⟨h.1, h.2.1.mv hal hh, h.2.2.1, h.2.2.2.1.there hal hh, h.2.2.2.2⟩) (fun r U U' V V' h1 hal h2 h => XT.PureE.mv r U U' V V' h1 hal h2 h) ?_
  intro p e s m args below meth c s₁ X0 hexec hbytes hml hret hlk hnm hown hh0 W hP
  obtain ⟨rfl, hx, hc, s1, hz⟩ := hP
  have c1 : Steps p.tables e below (s₁.setTop (entryFrame m #[.ref x] 1)) (s₁.setTop (mkF m 0 #[.val (.ref x)] [])) := entry rfl
  obtain ⟨T2, X2, q2, st2⟩ := X0.sget hexec hown (wk W (.fieldLink "java/lang/String" 38 "java/lang/String" "COMPACT_STRINGS" "Z")) s1 (fun _ _ h => by rw [hh0]; exact h) (g := (mkF m 0 #[.val (.ref x)] [])) rfl (hb hbytes d0)
  have hh2 := q2.trans hh0
  have c3 : Steps p.tables e below (s₁.setTop (entryFrame m #[.ref x] 1)) (T2.setTop (mkF m 7 #[.val (.ref x)] [.ref x])) := (c1.trans (st2 _ (Steps.refl _))).trans (by
    refine XS.ifNo X2.here hexec rfl (hb hbytes d3) rfl (i0_eq_f hz) ?_
    refine XS.aloadN X2.here hexec rfl (hb hbytes d6) rfl rfl ?_
    exact Steps.refl _)
  obtain ⟨T4, X4, q4, st4⟩ := X2.hget hexec hown (wk W (.fieldLink "java/lang/String" 15 "java/lang/String" "coder" "B")) (hx.mv X2.warmed.alike hh2) (g := (mkF m 7 #[.val (.ref x)] [.ref x])) rfl (rest := []) rfl (hb hbytes d7)
  have c5 : Steps p.tables e below (s₁.setTop (entryFrame m #[.ref x] 1)) (T4.setTop (mkF m 14 #[.val (.ref x)] [.int cd])) := (c3.trans (st4 _ (Steps.refl _))).trans (by
    refine XS.goto X4.here hexec rfl (pc0 := 10) rfl (hb hbytes d10) (by decide) rfl ?_
    exact Steps.refl _)
  exact ⟨T4, some (.int cd), _, _, _, X4, rfl, rfl, rfl, (fun h => by cases h), ⟨rfl, q4.trans hh2⟩, fun fs hl => c5.trans (X4.ireturnOut hexec hret (by rcases hc with rfl | rfl <;> rfl) (Or.inr (Or.inr (Or.inl rfl))) (hb hbytes d14) hl)⟩
end Cdr
namespace Len
def yN : MethodName := ⟨"java/lang/String", "length", "()I"⟩
abbrev yB : ByteArray := jdk_42_method_54_code
theorem d0 : decode yB 0 = .ok (.aload_n 0, 1) := by decide +kernel
theorem d1 : decode yB 1 = .ok (.getfield 9, 3) := by decide +kernel
theorem d4 : decode yB 4 = .ok (.arraylength, 1) := by decide +kernel
theorem d5 : decode yB 5 = .ok (.aload_n 0, 1) := by decide +kernel
theorem d6 : decode yB 6 = .ok (.invokevirtual 335, 3) := by decide +kernel
theorem d9 : decode yB 9 = .ok (.ishr, 1) := by decide +kernel
theorem d10 : decode yB 10 = .ok (.ireturn, 1) := by decide +kernel
def site : List Cond := [.fieldLink "java/lang/String" 9 "java/lang/String" "value" "[B", Cdr.tab] ++ virtW "java/lang/String" 335 "java/lang/String" Cdr.yN Cdr.yN
def tab : Cond := tabOf yN yB 1 (some .int) site
def P (x t : Addr) (V : Cell) (cd : Int32) (n : Nat) (f : Nat → Int32) (z : Int32) (args : Array Value) (s : State) : Prop := args = #[.ref x] ∧ Txt x t V cd n f s ∧ StaticIs s "java/lang/String" "COMPACT_STRINGS" "Z" (.int z) ∧ ¬ z = 0
def E (n : Nat) (r : Option Value) (s u : State) : Prop := XT.PureE (some (.int (Int32.ofNat n))) r s u
/-- length() of a String of n chars, in either coding -/
theorem law (l : Launch) (x t : Addr) (V : Cell) (cd : Int32) (n : Nat) (f : Nat → Int32) (z : Int32) : Law l yN 1 0 1 13 yB 1 (some .int) site (P x t V cd n f z) (E n) [] 0 0 := by
  refine Law.of_walk (plainFor_of_name (by decide +kernel)) (by decide +kernel) (by decide +kernel) (by decide) (fun _ _ h => by rw [h.1]; rfl) (fun _ U U' hal hh h => ⟨h.1, h.2.1.mv hal hh, h.2.2.1.there hal hh, h.2.2.2⟩) (fun r U U' V V' h1 hal h2 h => XT.PureE.mv r U U' V V' h1 hal h2 h) ?_
  intro p e s m args below meth c s₁ X0 hexec hbytes hml hret hlk hnm hown hh0 W hP
  obtain ⟨rfl, hx, s1, hz⟩ := hP
  have v31 := hx.2.2.2.1.2.2.2
  have c1 : Steps p.tables e below (s₁.setTop (entryFrame m #[.ref x] 1)) (s₁.setTop (mkF m 1 #[.val (.ref x)] [.ref x])) := Steps.trans (entry rfl) (by
    show Steps p.tables e below (s₁.setTop (mkF m 0 #[.val (.ref x)] [])) _
    refine XS.aloadN X0.here hexec rfl (hb hbytes d0) rfl rfl ?_
    exact Steps.refl _)
  obtain ⟨T2, X2, q2, st2⟩ := X0.hget hexec hown (wk W (.fieldLink "java/lang/String" 9 "java/lang/String" "value" "[B")) (hx.mv X0.warmed.alike hh0).2.1 (g := (mkF m 1 #[.val (.ref x)] [.ref x])) rfl (rest := []) rfl (hb hbytes d1)
  have hh2 := q2.trans hh0
  have hx2 := hx.mv X2.warmed.alike hh2
  have c3 : Steps p.tables e below (s₁.setTop (entryFrame m #[.ref x] 1)) (T2.setTop (mkF m 6 #[.val (.ref x)] [.ref x, .int (Int32.ofNat V.slots.size)])) := (c1.trans (st2 _ (Steps.refl _))).trans (by
    refine X2.alen hexec hx2.2.2.2.1 rfl rfl (hb hbytes d4) ?_
    refine XS.aloadN X2.here hexec rfl (hb hbytes d5) rfl rfl ?_
    exact Steps.refl _)
  obtain ⟨v4, T4, X4, E4, g4⟩ := X2.callV hexec (Cdr.law l x cd z) hown (wks W (virtW "java/lang/String" 335 "java/lang/String" Cdr.yN Cdr.yN)) rfl (by decide) (wk W Cdr.tab) (W := 1) (Nat.le_of_ble_eq_true rfl) (Nat.le_of_ble_eq_true rfl) (Nat.le_refl _) (Nat.le_refl _) (hx2.1.fc X2.warmed.alike) hx2.1.is (g := (mkF m 6 #[.val (.ref x)] [.ref x, .int (Int32.ofNat V.slots.size)])) rfl (by rw [hml]; rfl) c3 (argsL := []) (rest := [.int (Int32.ofNat V.slots.size)]) rfl rfl (by show 2 * 0 + (1 + 0) ≤ _; decide) (hb hbytes d6) (⟨rfl, hx2.2.2.1, hx.2.2.2.2.1.cd, s1.there X2.warmed.alike hh2, hz⟩)
  obtain ⟨rfl, q4⟩ := E4
  have c5 : Steps p.tables e below (s₁.setTop (entryFrame m #[.ref x] 1)) (T4.setTop (mkF m 10 #[.val (.ref x)] [.int (Int32.ofNat V.slots.size >>> (cd &&& 31))])) := Steps.trans g4 (by
    refine ishr X4.here hexec rfl (hb hbytes d9) rfl ?_
    exact Steps.refl _)
  rw [hx.2.2.2.2.1.len v31] at c5
  exact ⟨T4, some (.int (Int32.ofNat n)), _, _, _, X4, rfl, rfl, rfl, (fun h => by cases h), ⟨rfl, q4.trans hh2⟩, fun fs hl => c5.trans (X4.ireturnOut hexec hret rfl (Or.inl rfl) (hb hbytes d10) hl)⟩
theorem pays {l : Launch} {R : Room} {p : Program} {e : Env} {below : List Frame} {s : State} {sargs : Array Value} {len W : Nat} (x t : Addr) (V : Cell) (cd : Int32) (n : Nat) (f : Nat → Int32) (z : Int32) (htab : tab.before sargs s = true) (hfr : 2 ≤ R.frames) (hlo : W + 25 ≤ R.locals) :
    Back l R p e below s sargs yN len W (fun A₁ a₁ => A₁.cells + 0 ≤ R.cells ∧ A₁.slots + 0 ≤ R.slots ∧ P x t V cd n f z a₁ A₁.U) (fun A₁ _ v₁ B₁ => E n v₁ A₁.U B₁.U ∧ B₁.locs = A₁.locs ++ [] ∧ B₁.cells = A₁.cells + 0 ∧ B₁.slots = A₁.slots + 0) :=
  (law l x t V cd n f z).pays htab hfr (by omega)
end Len
namespace IsL
def yN : MethodName := ⟨"java/lang/String", "isLatin1", "()Z"⟩
abbrev yB : ByteArray := jdk_42_method_154_code
theorem d0 : decode yB 0 = .ok (.getstatic 38, 3) := by decide +kernel
theorem d3 : decode yB 3 = .ok (.ifCond (.eq) 14, 3) := by decide +kernel
theorem d6 : decode yB 6 = .ok (.aload_n 0, 1) := by decide +kernel
theorem d7 : decode yB 7 = .ok (.getfield 15, 3) := by decide +kernel
theorem d10 : decode yB 10 = .ok (.ifCond (.ne) 7, 3) := by decide +kernel
theorem d13 : decode yB 13 = .ok (.iconst 1, 1) := by decide +kernel
theorem d14 : decode yB 14 = .ok (.goto 4, 3) := by decide +kernel
theorem d17 : decode yB 17 = .ok (.iconst 0, 1) := by decide +kernel
theorem d18 : decode yB 18 = .ok (.ireturn, 1) := by decide +kernel
def site : List Cond := [.fieldLink "java/lang/String" 38 "java/lang/String" "COMPACT_STRINGS" "Z", .fieldLink "java/lang/String" 15 "java/lang/String" "coder" "B"]
def tab : Cond := tabOf yN yB 1 (some .boolean) site
def P (x : Addr) (cd z : Int32) (args : Array Value) (s : State) : Prop := args = #[.ref x] ∧ Has x "java/lang/String" "coder" "B" (.int cd) s ∧ (cd = 0 ∨ cd = 1) ∧ StaticIs s "java/lang/String" "COMPACT_STRINGS" "Z" (.int z) ∧ ¬ z = 0
def E (cd : Int32) (r : Option Value) (s u : State) : Prop := XT.PureE (some (.int (1 - cd))) r s u
theorem law (l : Launch) (x : Addr) (cd z : Int32) : Law l yN 1 0 0 0 yB 1 (some .boolean) site (P x cd z) (E cd) [] 0 0 := by
  refine Law.of_walk (plainFor_of_name (by decide +kernel)) (by decide +kernel) (by decide +kernel) (by decide) (fun _ _ h => by rw [h.1]; rfl) (fun _ U U' hal hh h => ⟨h.1, h.2.1.mv hal hh, h.2.2.1, h.2.2.2.1.there hal hh, h.2.2.2.2⟩) (fun r U U' V V' h1 hal h2 h => XT.PureE.mv r U U' V V' h1 hal h2 h) ?_
  intro p e s m args below meth c s₁ X0 hexec hbytes hml hret hlk hnm hown hh0 W hP
  obtain ⟨rfl, hx, hc, s1, hz⟩ := hP
  have c1 : Steps p.tables e below (s₁.setTop (entryFrame m #[.ref x] 1)) (s₁.setTop (mkF m 0 #[.val (.ref x)] [])) := entry rfl
  obtain ⟨T2, X2, q2, st2⟩ := X0.sget hexec hown (wk W (.fieldLink "java/lang/String" 38 "java/lang/String" "COMPACT_STRINGS" "Z")) s1 (fun _ _ h => by rw [hh0]; exact h) (g := (mkF m 0 #[.val (.ref x)] [])) rfl (hb hbytes d0)
  have hh2 := q2.trans hh0
  have c3 : Steps p.tables e below (s₁.setTop (entryFrame m #[.ref x] 1)) (T2.setTop (mkF m 7 #[.val (.ref x)] [.ref x])) := (c1.trans (st2 _ (Steps.refl _))).trans (by
    refine XS.ifNo X2.here hexec rfl (hb hbytes d3) rfl (i0_eq_f hz) ?_
    refine XS.aloadN X2.here hexec rfl (hb hbytes d6) rfl rfl ?_
    exact Steps.refl _)
  obtain ⟨T4, X4, q4, st4⟩ := X2.hget hexec hown (wk W (.fieldLink "java/lang/String" 15 "java/lang/String" "coder" "B")) (hx.mv X2.warmed.alike hh2) (g := (mkF m 7 #[.val (.ref x)] [.ref x])) rfl (rest := []) rfl (hb hbytes d7)
  have c5 : Steps p.tables e below (s₁.setTop (entryFrame m #[.ref x] 1)) (T4.setTop (mkF m 10 #[.val (.ref x)] [.int cd])) := c3.trans (st4 _ (Steps.refl _))
  have c6 : Steps p.tables e below (s₁.setTop (entryFrame m #[.ref x] 1)) (T4.setTop (mkF m 18 #[.val (.ref x)] [.int (1 - cd)])) := by
    rcases hc with rfl | rfl
    · exact c5.trans (by
        refine XS.ifNo X4.here hexec rfl (hb hbytes d10) rfl (i0_ne_f rfl) ?_
        refine iconstV X4.here hexec rfl 1 (hb hbytes d13) (by decide) ?_
        refine XS.goto X4.here hexec rfl (pc0 := 14) rfl (hb hbytes d14) (by decide) rfl ?_
        exact Steps.refl _)
    · exact c5.trans (by
        refine XS.ifYes X4.here hexec rfl (pc0 := 10) rfl (hb hbytes d10) rfl (i0_ne_t (by decide)) (by decide) rfl ?_
        refine iconstV X4.here hexec rfl 0 (hb hbytes d17) (by decide) ?_
        exact Steps.refl _)
  exact ⟨T4, some (.int (1 - cd)), _, _, _, X4, rfl, rfl, rfl, (fun h => by cases h), ⟨rfl, q4.trans hh2⟩, fun fs hl => c6.trans (X4.ireturnOut hexec hret (by rcases hc with rfl | rfl <;> rfl) (Or.inr (Or.inl rfl)) (hb hbytes d18) hl)⟩
end IsL
namespace LChA
def yN : MethodName := ⟨"java/lang/StringLatin1", "charAt", "([BI)C"⟩
abbrev yB : ByteArray := jdk_43_method_2_code
theorem d0 : decode yB 0 = .ok (.iload_n 1, 1) := by decide +kernel
theorem d1 : decode yB 1 = .ok (.aload_n 0, 1) := by decide +kernel
theorem d2 : decode yB 2 = .ok (.arraylength, 1) := by decide +kernel
theorem d3 : decode yB 3 = .ok (.invokestatic 9, 3) := by decide +kernel
theorem d6 : decode yB 6 = .ok (.aload_n 0, 1) := by decide +kernel
theorem d7 : decode yB 7 = .ok (.iload_n 1, 1) := by decide +kernel
theorem d8 : decode yB 8 = .ok (.baload, 1) := by decide +kernel
theorem d9 : decode yB 9 = .ok (.sipush 255, 3) := by decide +kernel
theorem d12 : decode yB 12 = .ok (.iand, 1) := by decide +kernel
theorem d13 : decode yB 13 = .ok (.i2c, 1) := by decide +kernel
theorem d14 : decode yB 14 = .ok (.ireturn, 1) := by decide +kernel
def site : List Cond := [JO.Str_checkIndex.tab] ++ staticW "java/lang/StringLatin1" 9 JO.Str_checkIndex.yN
def tab : Cond := tabOf yN yB 2 (some .char) site
def P (t : Addr) (V : Cell) (i : Nat) (u : Int32) (fm : Value) (args : Array Value) (s : State) : Prop := args = #[.ref t, .int (Int32.ofNat i)] ∧ XT.Arr .byte t V s ∧ V.slots[i]? = some (.int u) ∧ (StaticIs s "jdk/internal/util/Preconditions" "SIOOBE_FORMATTER" "Ljava/util/function/BiFunction;" fm ∧ fm.isRef = true)
def E (u : Int32) (r : Option Value) (s w : State) : Prop := XT.PureE (some (.int (chr8 u))) r s w
theorem law (l : Launch) (t : Addr) (V : Cell) (i : Nat) (u : Int32) (fm : Value) : Law l yN 2 2 2 27 yB 2 (some .char) site (P t V i u fm) (E u) [] 0 0 := by
  refine Law.of_walk (plainFor_of_name (by decide +kernel)) (by decide +kernel) (by decide +kernel) (by decide) (fun _ _ h => by rw [h.1]; rfl) (fun _ U U' hal hh h => ⟨h.1, h.2.1.mv hal hh, h.2.2.1, h.2.2.2.1.there hal hh, h.2.2.2.2⟩) (fun r U U' V V' h1 hal h2 h => XT.PureE.mv r U U' V V' h1 hal h2 h) ?_
  intro p e s m args below meth c s₁ X0 hexec hbytes hml hret hlk hnm hown hh0 W hP
  obtain ⟨rfl, hV, hu, s1, rf⟩ := hP
  have v31 := hV.2.2.2
  have hi : i < V.slots.size := (Array.getElem?_eq_some_iff.mp hu).1
  have c1 : Steps p.tables e below (s₁.setTop (entryFrame m #[.ref t, .int (Int32.ofNat i)] 2)) (s₁.setTop (mkF m 0 #[.val (.ref t), .val (.int (Int32.ofNat i))] [])) := entry rfl
  have c2 : Steps p.tables e below (s₁.setTop (entryFrame m #[.ref t, .int (Int32.ofNat i)] 2)) (s₁.setTop (mkF m 3 #[.val (.ref t), .val (.int (Int32.ofNat i))] [.int (Int32.ofNat V.slots.size), .int (Int32.ofNat i)])) := c1.trans (by
    refine XS.iloadN X0.here hexec rfl (hb hbytes d0) rfl ?_
    refine XS.aloadN X0.here hexec rfl (hb hbytes d1) rfl rfl ?_
    refine X0.alen hexec (hV.mv X0.warmed.alike hh0) rfl rfl (hb hbytes d2) ?_
    exact Steps.refl _)
  obtain ⟨v3, T3, X3, E3, g3⟩ := X0.callS hexec (JO.Str_checkIndex.law l (Int32.ofNat i) (Int32.ofNat V.slots.size) fm) hown (wks W (staticW "java/lang/StringLatin1" 9 JO.Str_checkIndex.yN)) (wk W JO.Str_checkIndex.tab) (W := 0) (Nat.le_of_ble_eq_true rfl) (Nat.le_of_ble_eq_true rfl) (Nat.le_refl _) (Nat.le_refl _) (g := (mkF m 3 #[.val (.ref t), .val (.int (Int32.ofNat i))] [.int (Int32.ofNat V.slots.size), .int (Int32.ofNat i)])) rfl (by rw [hml]; rfl) c2 (argsL := [.int (Int32.ofNat i), .int (Int32.ofNat V.slots.size)]) (rest := []) rfl rfl (by show 2 * 0 + 0 ≤ _; decide) (hb hbytes d3) (⟨rfl, rf, s1.there X0.warmed.alike hh0, Int32.ofNat_not_neg (by omega), lt32 v31 hi⟩)
  obtain ⟨rfl, q3⟩ := E3
  have hh3 := q3.trans hh0
  have c4 : Steps p.tables e below (s₁.setTop (entryFrame m #[.ref t, .int (Int32.ofNat i)] 2)) (T3.setTop (mkF m 14 #[.val (.ref t), .val (.int (Int32.ofNat i))] [.int (chr8 u)])) := Steps.trans g3 (by
    refine XS.aloadN X3.here hexec rfl (hb hbytes d6) rfl rfl ?_
    refine XS.iloadN X3.here hexec rfl (hb hbytes d7) rfl ?_
    refine X3.aget hexec (hV.mv X3.warmed.alike hh3) rfl hu rfl rfl (hb hbytes d8) ?_
    refine sipushV X3.here hexec rfl 255 (hb hbytes d9) (by decide) ?_
    refine XS.iand X3.here hexec rfl (hb hbytes d12) rfl ?_
    refine i2c X3.here hexec rfl (hb hbytes d13) rfl ?_
    exact Steps.refl _)
  exact ⟨T3, some (.int (chr8 u)), _, _, _, X3, rfl, rfl, rfl, (fun h => by cases h), ⟨rfl, hh3⟩, fun fs hl => c4.trans (X3.ireturnOut hexec hret (narrow_c _) (Or.inr (Or.inr (Or.inr (Or.inl rfl)))) (hb hbytes d14) hl)⟩
end LChA
end StrChars
namespace StrChars.Road
open Jvm Sem ClassFile Op Lib Jvm.Stand Jvm.Free Jvm.Free.XT
open Jvm.Lib.Cold (StaticIs)
theorem consq {a : Array Value} {s : State} {c : Jvm.Cond} {L : List Jvm.Cond} (h0 : c.before a s = true) (h : ∀ w ∈ L, w.before a s = true) : ∀ w ∈ c :: L, w.before a s = true := fun w hw => (List.mem_cons.mp hw).elim (fun e => e ▸ h0) (h w)
/-- the words of String.length(), either coding -/
abbrev wordsLen : List Jvm.Cond := [.code Len.yN Len.yB 1 (some .int), .initialized ST, .fieldLink ST 9 ST "value" "[B", .fieldLink ST 38 ST "COMPACT_STRINGS" "Z", .fieldLink ST 15 ST "coder" "B", .code Cdr.yN Cdr.yB 1 (some .byte), .methodLink ST 335 Cdr.yN, .declares Cdr.yN, .selects ST Cdr.yN Cdr.yN, .instanceMethod Cdr.yN]
theorem tabLen_of {a : Array Value} {s : State} (h : ∀ w ∈ wordsLen, w.before a s = true) : Len.tab.before a s = true := by
  have hc : Cdr.tab.before a s = true := unparts (wk h (.code Cdr.yN Cdr.yB 1 (some .byte))) (wks h (.initialized Cdr.yN.cls :: Cdr.site))
  have q := consq hc h
  exact unparts (wk q (.code Len.yN Len.yB 1 (some .int))) (wks q (.initialized Len.yN.cls :: Len.site))
theorem movedLen {Z s : State} {a0 args : Array Value} (hZ : Z.Warmed39 s.vm) (hw : ∀ d ∈ wordsLen, d.before a0 Z = true) : ∀ d ∈ wordsLen, d.before args s = true := fun d hd => by
  have q := hw d hd
  have t : ∀ d ∈ wordsLen, d = .arrayClass .byte ∨ (d.onTables && d.keepsFace) = true := by decide +kernel
  rcases t d hd with rfl | t
  · exact RoadKit.mvA hZ q
  · exact RoadKit.mv hZ q t
/-- the bytes of the chars cs, low before high -/
def wideBytes : List Int32 → List Value
  | [] => []
  | c :: cs => .int (lo8 c) :: .int (hi8 c) :: wideBytes cs
theorem wide_lo (d : Value) : ∀ (cs : List Int32) (j : Nat), j < cs.length → (wideBytes cs).getD (2 * j) d = .int (lo8 (cs.getD j 0))
  | [], j, h => absurd h (Nat.not_lt_zero j)
  | c :: cs, 0, _ => rfl
  | c :: cs, j + 1, h => by
    have q := wide_lo d cs j (by simpa using h)
    rw [show 2 * (j + 1) = 2 * j + 1 + 1 from by omega]
    simpa [wideBytes] using q
theorem wide_hi (d : Value) : ∀ (cs : List Int32) (j : Nat), j < cs.length → (wideBytes cs).getD (2 * j + 1) d = .int (hi8 (cs.getD j 0))
  | [], j, h => absurd h (Nat.not_lt_zero j)
  | c :: cs, 0, _ => rfl
  | c :: cs, j + 1, h => by
    have q := wide_hi d cs j (by simpa using h)
    rw [show 2 * (j + 1) + 1 = 2 * j + 1 + 1 + 1 from by omega]
    simpa [wideBytes] using q
theorem low_at (d : Value) (cs : List Int32) (j : Nat) (h : j < cs.length) : (cs.map fun c => Value.int (lo8 c)).getD j d = .int (lo8 (cs.getD j 0)) := by
  simp [List.getD_eq_getElem?_getD, h]
/-- an array of N2 bytes vs codes the chars cs by the coder cd -/
def CodA (cs : List Int32) (cd N2 : Int32) (vs : List Value) : Prop := (cd = 0 ∧ N2 = Int32.ofNat cs.length ∧ vs = (cs.map fun c => Value.int (lo8 c)) ∧ ∀ c ∈ cs, ¬ 255 < c) ∨ (cd = 1 ∧ N2 = Int32.ofNat (2 * cs.length) ∧ vs = wideBytes cs ∧ ∃ c ∈ cs, 255 < c)
theorem CodA.cod {cs : List Int32} {cd N2 : Int32} {vs : List Value} {V : Cell} (h : CodA cs cd N2 vs) (hn : 2 * cs.length < 2 ^ 31) (hs : V.slots.size = N2.toNatClampNeg) (hv : RoadKit.Has V vs (.int 0)) : Cod cd cs.length (fun j => cs.getD j 0) V := by
  rcases h with ⟨rfl, rfl, rfl, h⟩ | ⟨rfl, rfl, rfl, c, hc, hw⟩
  · rw [n32 (by omega)] at hs
    exact Or.inl ⟨rfl, hs, fun j hj => ⟨by rw [hv j (by omega), low_at _ _ _ hj], by
      have e : cs.getD j 0 = cs[j] := by simp [List.getD_eq_getElem?_getD, hj]
      show ¬ 255 < cs.getD j 0
      rw [e]; exact h _ (List.getElem_mem _)⟩⟩
  · rw [n32 (by omega)] at hs
    obtain ⟨j, hj, rfl⟩ := List.getElem_of_mem hc
    exact Or.inr ⟨rfl, hs, fun j hj => ⟨by rw [hv _ (by omega), wide_lo _ _ _ hj], by rw [hv _ (by omega), wide_hi _ _ _ hj]⟩, j, hj, by
      have e : cs.getD j 0 = cs[j] := by simp [List.getD_eq_getElem?_getD, hj]
      show 255 < cs.getD j 0
      rw [e]; exact hw⟩
/-- an object of exactly java/lang/String, its two fields found: as the laws ask it -/
theorem strObj {Z U : State} {a0 : Array Value} {kI : Nat} (wi : (Jvm.Cond.instantiable ST kI).before a0 Z = true) (al : Z.vm.Alike U.vm) {x : Addr} {v0 c0 : Value} (E : RoadKit.Exa Z U.heap x ST) (V : RoadKit.Fld Z U.heap x ST "value" "[B" v0) (C : RoadKit.Fld Z U.heap x ST "coder" "B" c0) :
    ∃ (D : Cell) (fV fC : Field), Blank ST x D U ∧ Found ST "value" "[B" fV U ∧ Found ST "coder" "B" fC U ∧ D.slots[fV.slot]? = some v0 ∧ D.slots[fC.slot]? = some c0 ∧ RoadKit.slotOf Z ST "value" "[B" = fV.slot ∧ RoadKit.slotOf Z ST "coder" "B" = fC.slot := by
  obtain ⟨D, cfV, kV, iV, fV, hD, gV, stV, knV, obV, asV, slV⟩ := V
  obtain ⟨D', cfC, kC, iC, fC, hD', gC, stC, -, -, asC, slC⟩ := C
  cases hD.symm.trans hD'
  obtain ⟨D2, kD, e1, e2, e3, e4, e5⟩ := E
  cases hD.symm.trans e1
  obtain ⟨c2, k2, i1, i2, i3, -⟩ := Cond.instantiable_spec wi
  cases e2.symm.trans i1
  cases e3.symm.trans i2
  obtain ⟨kU, u1, u2⟩ := al.2.2 _ _ e3
  exact ⟨D, fV, fC, ⟨hD, ⟨knV, fun q hq => by rw [hq] at obV; cases obV⟩, by rw [al.findClass]; exact e2, kU, u1, by rw [u2]; exact i3, by rw [u2]; exact e5 i3⟩, ⟨SBG.found_only al ⟨cfV, kV, iV, gV⟩, stV⟩, ⟨SBG.found_only al ⟨cfC, kC, iC, gC⟩, stC⟩, slV, slC, by simp [RoadKit.slotOf, gV], by simp [RoadKit.slotOf, gC]⟩
theorem sta_is {Z U : State} (al : Z.vm.Alike U.vm) {C n d : String} {v : Value} (S : RoadKit.Sta Z U.heap C n d v) : StaticIs U C n d v := by
  obtain ⟨cfS, iS, kS, fS, st, cS, t1, t2, t3, t4, t5, t6, t7⟩ := S
  exact StaticIs.there (s := { Z with heap := U.heap }) ⟨cfS, iS, kS, fS, st, cS, t1, t2, t3, t4, t5, (fun q => by rw [q] at t6; cases t6), t7⟩ al rfl
/-- **length() OF SUCH A STRING** -/
theorem lenW {p : Program} {l : Launch} {e : Env} {R : Room} {s : State} {args : Array Value} {below : List Frame} {len W : Nat} {Z : State} {a0 : Array Value} {h : Heap} (hZ : Z.Warmed39 s.vm) (hw : ∀ d ∈ wordsLen, d.before a0 Z = true) {kI : Nat} (wi : (Jvm.Cond.instantiable ST kI).before a0 Z = true)
    {x t : Addr} {kb : ClassId} {cs : List Int32} {cd N2 z : Int32} {vs : List Value} (E : RoadKit.Exa Z h x ST) (V : RoadKit.Fld Z h x ST "value" "[B" (.ref t)) (C : RoadKit.Fld Z h x ST "coder" "B" (.int cd)) (K : RoadKit.Arv Z h t kb .byte N2 vs (.int 0)) (hc : CodA cs cd N2 vs) (hb : ∀ c ∈ cs, ¬ c < 0 ∧ ¬ (65535 : Int32) < c)
    (S : RoadKit.Sta Z h ST "COMPACT_STRINGS" "Z" (.int z)) (hz : ¬ z = 0) (l2 : cs.length ≤ 4000) (hfr : 2 ≤ R.frames) (hlo : W + 25 ≤ R.locals) :
    Back l R p e below s args (⟨"java/lang/String", "length", "()I"⟩ : MethodName) len W (fun P a => a = #[.ref x] ∧ P.U.heap = h ∧ P.cells + 0 ≤ R.cells ∧ P.slots + 0 ≤ R.slots)
      (fun P _ v B => ∃ L, (v = some (.int (Int32.ofNat cs.length)) ∧ L = [] ∧ B.U.heap = h) ∧ B.locs = P.locs ++ L ∧ B.cells = P.cells + 0 ∧ B.slots = P.slots + 0) := by
  obtain ⟨A, K1, K2, K3, K4, K5, K6⟩ := K
  have hcod := hc.cod (by omega) K3 K5
  intro m meth c P g ig mk a X hg hsize hdg hW hn hp'
  obtain ⟨rfl, rfl, r1, r2⟩ := hp'
  have al : Z.vm.Alike P.U.vm := hZ.alike.trans X.warmed.alike
  obtain ⟨D, fV, fC, hB, F1, F2, g1, g2, -, -⟩ := strObj wi al E V C
  have hx : Txt x t A cd cs.length (fun j => cs.getD j 0) P.U := ⟨⟨_, hB.2.2.1, D, hB.1, rfl, by cases q : D.vm <;> first | rfl | exact absurd q (hB.2.1.2 _)⟩, Has.of hB F1 g1, Has.of hB F2 g2, ⟨K1.1, State.isArrayOf_alike al K1.2.1, K1.2.2, by rcases hcod with ⟨-, q, -⟩ | ⟨-, q, -⟩ <;> omega⟩, hcod, fun j hj => by
    have e : cs.getD j 0 = cs[j] := by simp [List.getD_eq_getElem?_getD, hj]
    show ¬ cs.getD j 0 < 0 ∧ ¬ 65535 < cs.getD j 0
    rw [e]; exact hb _ (List.getElem_mem _)⟩
  obtain ⟨v, B, X', ⟨⟨hv, hh⟩, hl, hk, hs⟩, st⟩ := Len.pays x t A cd cs.length (fun j => cs.getD j 0) z (tabLen_of (movedLen hZ hw)) hfr hlo m meth c P g ig mk _ X hg hsize hdg hW hn ⟨r1, r2, rfl, hx, sta_is al S, hz⟩
  exact ⟨v, B, X', ⟨[], ⟨hv, rfl, hh⟩, hl, hk, hs⟩, st⟩
end StrChars.Road
namespace StrChars
open Jvm Sem ClassFile Op Lib Jvm.Stand Jvm.Free.XT Jvm.Free.ALB Jvm.Free.JM Jvm.Free
open Jvm.Lib.Cold (StaticIs)
namespace Emp
def yN : MethodName := ⟨"java/lang/String", "isEmpty", "()Z"⟩
abbrev yB : ByteArray := jdk_42_method_55_code
theorem d0 : decode yB 0 = .ok (.aload_n 0, 1) := by decide +kernel
theorem d1 : decode yB 1 = .ok (.getfield 9, 3) := by decide +kernel
theorem d4 : decode yB 4 = .ok (.arraylength, 1) := by decide +kernel
theorem d5 : decode yB 5 = .ok (.ifCond (.ne) 7, 3) := by decide +kernel
theorem d8 : decode yB 8 = .ok (.iconst 1, 1) := by decide +kernel
theorem d9 : decode yB 9 = .ok (.goto 4, 3) := by decide +kernel
theorem d12 : decode yB 12 = .ok (.iconst 0, 1) := by decide +kernel
theorem d13 : decode yB 13 = .ok (.ireturn, 1) := by decide +kernel
def site : List Cond := [.fieldLink "java/lang/String" 9 "java/lang/String" "value" "[B"]
def tab : Cond := tabOf yN yB 1 (some .boolean) site
def P (x t : Addr) (V : Cell) (cd : Int32) (n : Nat) (f : Nat → Int32) (args : Array Value) (s : State) : Prop := args = #[.ref x] ∧ Txt x t V cd n f s
def E (n : Nat) (r : Option Value) (s u : State) : Prop := XT.PureE (some (.int (if n = 0 then 1 else 0))) r s u
/-- isEmpty() of a String of n chars -/
theorem law (l : Launch) (x t : Addr) (V : Cell) (cd : Int32) (n : Nat) (f : Nat → Int32) : Law l yN 1 0 0 0 yB 1 (some .boolean) site (P x t V cd n f) (E n) [] 0 0 := by
  refine Law.of_walk (plainFor_of_name (by decide +kernel)) (by decide +kernel) (by decide +kernel) (by decide) (fun _ _ h => by rw [h.1]; rfl) (fun _ U U' hal hh h => ⟨h.1, h.2.mv hal hh⟩) (fun r U U' V V' h1 hal h2 h => XT.PureE.mv r U U' V V' h1 hal h2 h) ?_
  intro p e s m args below meth c s₁ X0 hexec hbytes hml hret hlk hnm hown hh0 W hP
  obtain ⟨rfl, hx⟩ := hP
  have v31 := hx.2.2.2.1.2.2.2
  have c1 : Steps p.tables e below (s₁.setTop (entryFrame m #[.ref x] 1)) (s₁.setTop (mkF m 1 #[.val (.ref x)] [.ref x])) := Steps.trans (entry rfl) (by
    show Steps p.tables e below (s₁.setTop (mkF m 0 #[.val (.ref x)] [])) _
    refine XS.aloadN X0.here hexec rfl (hb hbytes d0) rfl rfl ?_
    exact Steps.refl _)
  obtain ⟨T2, X2, q2, st2⟩ := X0.hget hexec hown (wk W (.fieldLink "java/lang/String" 9 "java/lang/String" "value" "[B")) (hx.mv X0.warmed.alike hh0).2.1 (g := (mkF m 1 #[.val (.ref x)] [.ref x])) rfl (rest := []) rfl (hb hbytes d1)
  have hh2 := q2.trans hh0
  have hx2 := hx.mv X2.warmed.alike hh2
  have c3 : Steps p.tables e below (s₁.setTop (entryFrame m #[.ref x] 1)) (T2.setTop (mkF m 5 #[.val (.ref x)] [.int (Int32.ofNat V.slots.size)])) := (c1.trans (st2 _ (Steps.refl _))).trans (by
    refine X2.alen hexec hx2.2.2.2.1 rfl rfl (hb hbytes d4) ?_
    exact Steps.refl _)
  have hz : V.slots.size = 0 ↔ n = 0 := by
    rcases hx.2.2.2.2.1 with ⟨-, q, -⟩ | ⟨-, q, -⟩ <;> omega
  by_cases h0 : n = 0
  · have c4 : Steps p.tables e below (s₁.setTop (entryFrame m #[.ref x] 1)) (T2.setTop (mkF m 13 #[.val (.ref x)] [.int 1])) := c3.trans (by
      refine XS.ifNo X2.here hexec rfl (hb hbytes d5) rfl (i0_ne_f (by rw [hz.mpr h0]; rfl)) ?_
      refine iconstV X2.here hexec rfl 1 (hb hbytes d8) (by decide) ?_
      refine XS.goto X2.here hexec rfl (pc0 := 9) rfl (hb hbytes d9) (by decide) rfl ?_
      exact Steps.refl _)
    exact ⟨T2, some (.int 1), _, _, _, X2, rfl, rfl, rfl, (fun h => by cases h), ⟨by rw [if_pos h0], hh2⟩, fun fs hl => c4.trans (X2.ireturnOut hexec hret rfl (Or.inr (Or.inl rfl)) (hb hbytes d13) hl)⟩
  · have c4 : Steps p.tables e below (s₁.setTop (entryFrame m #[.ref x] 1)) (T2.setTop (mkF m 13 #[.val (.ref x)] [.int 0])) := c3.trans (by
      refine XS.ifYes X2.here hexec rfl (pc0 := 5) rfl (hb hbytes d5) rfl (i0_ne_t (nz32 v31 (by omega))) (by decide) rfl ?_
      refine iconstV X2.here hexec rfl 0 (hb hbytes d12) (by decide) ?_
      exact Steps.refl _)
    exact ⟨T2, some (.int 0), _, _, _, X2, rfl, rfl, rfl, (fun h => by cases h), ⟨by rw [if_neg h0], hh2⟩, fun fs hl => c4.trans (X2.ireturnOut hexec hret rfl (Or.inr (Or.inl rfl)) (hb hbytes d13) hl)⟩
theorem pays {l : Launch} {R : Room} {p : Program} {e : Env} {below : List Frame} {s : State} {sargs : Array Value} {len W : Nat} (x t : Addr) (V : Cell) (cd : Int32) (n : Nat) (f : Nat → Int32) (htab : tab.before sargs s = true) (hfr : 1 ≤ R.frames) (hlo : W + 12 ≤ R.locals) :
    Back l R p e below s sargs yN len W (fun A₁ a₁ => A₁.cells + 0 ≤ R.cells ∧ A₁.slots + 0 ≤ R.slots ∧ P x t V cd n f a₁ A₁.U) (fun A₁ _ v₁ B₁ => E n v₁ A₁.U B₁.U ∧ B₁.locs = A₁.locs ++ [] ∧ B₁.cells = A₁.cells + 0 ∧ B₁.slots = A₁.slots + 0) :=
  (law l x t V cd n f).pays htab hfr (by omega)
end Emp
theorem lo8_inj {x y : Int32} (h0 : ¬ x < 0) (h1 : ¬ 255 < x) (k0 : ¬ y < 0) (k1 : ¬ 255 < y) (h : lo8 x = lo8 y) : x = y := by
  rw [← lo8_mask h0 h1, ← lo8_mask k0 k1, h]
end StrChars
namespace StrChars.Road
open Jvm Sem ClassFile Op Lib Jvm.Stand Jvm.Free Jvm.Free.XT
open Jvm.Lib.Cold (StaticIs)
/-- the words of String.isEmpty() -/
abbrev wordsEmp : List Jvm.Cond := [.code Emp.yN Emp.yB 1 (some .boolean), .initialized ST, .fieldLink ST 9 ST "value" "[B"]
theorem tabEmp_of {a : Array Value} {s : State} (h : ∀ w ∈ wordsEmp, w.before a s = true) : Emp.tab.before a s = true := unparts (wk h (.code Emp.yN Emp.yB 1 (some .boolean))) (wks h (.initialized Emp.yN.cls :: Emp.site))
theorem movedEmp {Z s : State} {a0 args : Array Value} (hZ : Z.Warmed39 s.vm) (hw : ∀ d ∈ wordsEmp, d.before a0 Z = true) : ∀ d ∈ wordsEmp, d.before args s = true := fun d hd => by
  have t : ∀ d ∈ wordsEmp, (d.onTables && d.keepsFace) = true := by decide +kernel
  exact RoadKit.mv hZ (hw d hd) (t d hd)
/-- the road's facts of a String, as the laws ask it -/
theorem txt_of {Z U : State} {a0 : Array Value} {kI : Nat} (wi : (Jvm.Cond.instantiable ST kI).before a0 Z = true) (al : Z.vm.Alike U.vm) {x t : Addr} {kb : ClassId} {cs : List Int32} {cd N2 : Int32} {vs : List Value} (E : RoadKit.Exa Z U.heap x ST) (V : RoadKit.Fld Z U.heap x ST "value" "[B" (.ref t)) (C : RoadKit.Fld Z U.heap x ST "coder" "B" (.int cd)) (K : RoadKit.Arv Z U.heap t kb .byte N2 vs (.int 0)) (hc : CodA cs cd N2 vs) (hb : ∀ c ∈ cs, ¬ c < 0 ∧ ¬ (65535 : Int32) < c) (l2 : cs.length ≤ 4000) :
    ∃ A, Txt x t A cd cs.length (fun j => cs.getD j 0) U := by
  obtain ⟨A, K1, K2, K3, K4, K5, K6⟩ := K
  have hcod := hc.cod (by omega) K3 K5
  obtain ⟨D, fV, fC, hB, F1, F2, g1, g2, -, -⟩ := strObj wi al E V C
  exact ⟨A, ⟨_, hB.2.2.1, D, hB.1, rfl, by cases q : D.vm <;> first | rfl | exact absurd q (hB.2.1.2 _)⟩, Has.of hB F1 g1, Has.of hB F2 g2, ⟨K1.1, State.isArrayOf_alike al K1.2.1, K1.2.2, by rcases hcod with ⟨-, q, -⟩ | ⟨-, q, -⟩ <;> omega⟩, hcod, fun j hj => by
    have e : cs.getD j 0 = cs[j] := by simp [List.getD_eq_getElem?_getD, hj]
    show ¬ cs.getD j 0 < 0 ∧ ¬ 65535 < cs.getD j 0
    rw [e]; exact hb _ (List.getElem_mem _)⟩
/-- **isEmpty() OF SUCH A STRING** -/
theorem empW {p : Program} {l : Launch} {e : Env} {R : Room} {s : State} {args : Array Value} {below : List Frame} {len W : Nat} {Z : State} {a0 : Array Value} {h : Heap} (hZ : Z.Warmed39 s.vm) (hw : ∀ d ∈ wordsEmp, d.before a0 Z = true) {kI : Nat} (wi : (Jvm.Cond.instantiable ST kI).before a0 Z = true)
    {x t : Addr} {kb : ClassId} {cs : List Int32} {cd N2 : Int32} {vs : List Value} (E : RoadKit.Exa Z h x ST) (V : RoadKit.Fld Z h x ST "value" "[B" (.ref t)) (C : RoadKit.Fld Z h x ST "coder" "B" (.int cd)) (K : RoadKit.Arv Z h t kb .byte N2 vs (.int 0)) (hc : CodA cs cd N2 vs) (hb : ∀ c ∈ cs, ¬ c < 0 ∧ ¬ (65535 : Int32) < c) (l2 : cs.length ≤ 4000) (hfr : 1 ≤ R.frames) (hlo : W + 12 ≤ R.locals) :
    Back l R p e below s args (⟨"java/lang/String", "isEmpty", "()Z"⟩ : MethodName) len W (fun P a => a = #[.ref x] ∧ P.U.heap = h ∧ P.cells + 0 ≤ R.cells ∧ P.slots + 0 ≤ R.slots)
      (fun P _ v B => ∃ L, (v = some (.int (if cs.length = 0 then 1 else 0)) ∧ L = [] ∧ B.U.heap = h) ∧ B.locs = P.locs ++ L ∧ B.cells = P.cells + 0 ∧ B.slots = P.slots + 0) := by
  intro m meth c P g ig mk a X hg hsize hdg hW hn hp'
  obtain ⟨rfl, rfl, r1, r2⟩ := hp'
  have al : Z.vm.Alike P.U.vm := hZ.alike.trans X.warmed.alike
  obtain ⟨A, hx⟩ := txt_of wi al E V C K hc hb l2
  obtain ⟨v, B, X', ⟨⟨hv, hh⟩, hl, hk, hs⟩, st⟩ := Emp.pays x t A cd cs.length (fun j => cs.getD j 0) (tabEmp_of (movedEmp hZ hw)) hfr hlo m meth c P g ig mk _ X hg hsize hdg hW hn ⟨r1, r2, rfl, hx⟩
  exact ⟨v, B, X', ⟨[], ⟨hv, rfl, hh⟩, hl, hk, hs⟩, st⟩
end StrChars.Road
namespace StrChars
open Jvm Sem ClassFile Op Lib Jvm.Stand Jvm.Free.XT Jvm.Free.ALB Jvm.Free.JM Jvm.Free
open Jvm.Lib.Cold (StaticIs)
namespace ChN
def yN : MethodName := ⟨"java/lang/String", "charAt", "(I)C"⟩
abbrev yB : ByteArray := jdk_42_method_56_code
theorem d0 : decode yB 0 = .ok (.aload_n 0, 1) := by decide +kernel
theorem d1 : decode yB 1 = .ok (.invokevirtual 492, 3) := by decide +kernel
theorem d4 : decode yB 4 = .ok (.ifCond (.eq) 12, 3) := by decide +kernel
theorem d7 : decode yB 7 = .ok (.aload_n 0, 1) := by decide +kernel
theorem d8 : decode yB 8 = .ok (.getfield 9, 3) := by decide +kernel
theorem d11 : decode yB 11 = .ok (.iload_n 1, 1) := by decide +kernel
theorem d12 : decode yB 12 = .ok (.invokestatic 495, 3) := by decide +kernel
theorem d15 : decode yB 15 = .ok (.ireturn, 1) := by decide +kernel
def site : List Cond := [.fieldLink "java/lang/String" 9 "java/lang/String" "value" "[B", IsL.tab, LChA.tab] ++ virtW "java/lang/String" 492 "java/lang/String" IsL.yN IsL.yN ++ staticW "java/lang/String" 495 LChA.yN
def tab : Cond := tabOf yN yB 2 (some .char) site
def P (x t : Addr) (V : Cell) (n : Nat) (f : Nat → Int32) (z : Int32) (fm : Value) (i : Nat) (args : Array Value) (s : State) : Prop := args = #[.ref x, .int (Int32.ofNat i)] ∧ Txt x t V 0 n f s ∧ i < n ∧ StaticIs s "java/lang/String" "COMPACT_STRINGS" "Z" (.int z) ∧ ¬ z = 0 ∧ StaticIs s "jdk/internal/util/Preconditions" "SIOOBE_FORMATTER" "Ljava/util/function/BiFunction;" fm ∧ fm.isRef = true
def E (f : Nat → Int32) (i : Nat) (r : Option Value) (s u : State) : Prop := XT.PureE (some (.int (f i))) r s u
/-- charAt(i) of a Latin-1 String of n chars, i < n: f i -/
theorem law (l : Launch) (x t : Addr) (V : Cell) (n : Nat) (f : Nat → Int32) (z : Int32) (fm : Value) (i : Nat) : Law l yN 2 1 3 40 yB 2 (some .char) site (P x t V n f z fm i) (E f i) [] 0 0 := by
  refine Law.of_walk (plainFor_of_name (by decide +kernel)) (by decide +kernel) (by decide +kernel) (by decide) (fun _ _ h => by rw [h.1]; rfl) (fun _ U U' hal hh h => ⟨h.1, h.2.1.mv hal hh, h.2.2.1, h.2.2.2.1.there hal hh, h.2.2.2.2.1, h.2.2.2.2.2.1.there hal hh, h.2.2.2.2.2.2⟩) (fun r U U' V V' h1 hal h2 h => XT.PureE.mv r U U' V V' h1 hal h2 h) ?_
  intro p e s m args below meth c s₁ X0 hexec hbytes hml hret hlk hnm hown hh0 W hP
  obtain ⟨rfl, hx, hi, s1, hz, s3, rf⟩ := hP
  have v31 := hx.2.2.2.1.2.2.2
  have hr := hx.2.2.2.2.2 i hi
  have hx0 := hx.mv X0.warmed.alike hh0
  have c1 : Steps p.tables e below (s₁.setTop (entryFrame m #[.ref x, .int (Int32.ofNat i)] 2)) (s₁.setTop (mkF m 1 #[.val (.ref x), .val (.int (Int32.ofNat i))] [.ref x])) := Steps.trans (entry rfl) (by
    show Steps p.tables e below (s₁.setTop (mkF m 0 #[.val (.ref x), .val (.int (Int32.ofNat i))] [])) _
    refine XS.aloadN X0.here hexec rfl (hb hbytes d0) rfl rfl ?_
    exact Steps.refl _)
  obtain ⟨v2, T2, X2, E2, g2⟩ := X0.callV hexec (IsL.law l x 0 z) hown (wks W (virtW "java/lang/String" 492 "java/lang/String" IsL.yN IsL.yN)) rfl (by decide) (wk W IsL.tab) (W := 0) (Nat.le_of_ble_eq_true rfl) (Nat.le_of_ble_eq_true rfl) (Nat.le_refl _) (Nat.le_refl _) (hx0.1.fc X0.warmed.alike) hx0.1.is (g := (mkF m 1 #[.val (.ref x), .val (.int (Int32.ofNat i))] [.ref x])) rfl (by rw [hml]; rfl) c1 (argsL := []) (rest := []) rfl rfl (by show 2 * 0 + 0 ≤ _; decide) (hb hbytes d1) (⟨rfl, hx0.2.2.1, hx.2.2.2.2.1.cd, s1.there X0.warmed.alike hh0, hz⟩)
  obtain ⟨rfl, q2⟩ := E2
  have hh2 := q2.trans hh0
  have hx2 := hx.mv X2.warmed.alike hh2
  obtain ⟨-, k1, k2⟩ | ⟨k0, -⟩ := hx.2.2.2.2.1
  · have c3 : Steps p.tables e below (s₁.setTop (entryFrame m #[.ref x, .int (Int32.ofNat i)] 2)) (T2.setTop (mkF m 8 #[.val (.ref x), .val (.int (Int32.ofNat i))] [.ref x])) := Steps.trans g2 (by
      refine XS.ifNo X2.here hexec rfl (hb hbytes d4) rfl (i0_eq_f (by decide)) ?_
      refine XS.aloadN X2.here hexec rfl (hb hbytes d7) rfl rfl ?_
      exact Steps.refl _)
    obtain ⟨T4, X4, q4, st4⟩ := X2.hget hexec hown (wk W (.fieldLink "java/lang/String" 9 "java/lang/String" "value" "[B")) hx2.2.1 (g := (mkF m 8 #[.val (.ref x), .val (.int (Int32.ofNat i))] [.ref x])) rfl (rest := []) rfl (hb hbytes d8)
    have hh4 := q4.trans hh2
    have c5 : Steps p.tables e below (s₁.setTop (entryFrame m #[.ref x, .int (Int32.ofNat i)] 2)) (T4.setTop (mkF m 12 #[.val (.ref x), .val (.int (Int32.ofNat i))] [.int (Int32.ofNat i), .ref t])) := (c3.trans (st4 _ (Steps.refl _))).trans (by
      refine XS.iloadN X4.here hexec rfl (hb hbytes d11) rfl ?_
      exact Steps.refl _)
    obtain ⟨v6, T6, X6, E6, g6⟩ := X4.callS hexec (LChA.law l t V i (lo8 (f i)) fm) hown (wks W (staticW "java/lang/String" 495 LChA.yN)) (wk W LChA.tab) (W := 0) (Nat.le_of_ble_eq_true rfl) (Nat.le_of_ble_eq_true rfl) (Nat.le_refl _) (Nat.le_refl _) (g := (mkF m 12 #[.val (.ref x), .val (.int (Int32.ofNat i))] [.int (Int32.ofNat i), .ref t])) rfl (by rw [hml]; rfl) c5 (argsL := [.ref t, .int (Int32.ofNat i)]) (rest := []) rfl rfl (by show 2 * 0 + 0 ≤ _; decide) (hb hbytes d12) (⟨rfl, hx.2.2.2.1.mv X4.warmed.alike hh4, (k2 i hi).1, s3.there X4.warmed.alike hh4, rf⟩)
    obtain ⟨rfl, q6⟩ := E6
    rw [chr8_lo8 hr.1 (k2 i hi).2] at g6
    exact ⟨T6, some (.int (f i)), _, _, _, X6, rfl, rfl, rfl, (fun h => by cases h), ⟨rfl, q6.trans hh4⟩, fun fs hl => Steps.trans g6 (X6.ireturnOut hexec hret (narrow_ch hr.1 hr.2) (Or.inr (Or.inr (Or.inr (Or.inl rfl)))) (hb hbytes d15) hl)⟩
  · exact absurd k0 (by decide)
theorem pays {l : Launch} {R : Room} {p : Program} {e : Env} {below : List Frame} {s : State} {sargs : Array Value} {len W : Nat} (x t : Addr) (V : Cell) (n : Nat) (f : Nat → Int32) (z : Int32) (fm : Value) (i : Nat) (htab : tab.before sargs s = true) (hfr : 4 ≤ R.frames) (hlo : W + 53 ≤ R.locals) :
    Back l R p e below s sargs yN len W (fun A₁ a₁ => A₁.cells + 0 ≤ R.cells ∧ A₁.slots + 0 ≤ R.slots ∧ P x t V n f z fm i a₁ A₁.U) (fun A₁ _ v₁ B₁ => E f i v₁ A₁.U B₁.U ∧ B₁.locs = A₁.locs ++ [] ∧ B₁.cells = A₁.cells + 0 ∧ B₁.slots = A₁.slots + 0) :=
  (law l x t V n f z fm i).pays htab hfr (by omega)
end ChN
end StrChars
namespace StrChars.Road
open Jvm Sem ClassFile Op Lib Jvm.Stand Jvm.Free Jvm.Free.XT
open Jvm.Lib.Cold (StaticIs)
/-- the words of String.charAt(int), the Latin-1 road alone -/
abbrev wordsChN : List Jvm.Cond := [.code ChN.yN ChN.yB 2 (some .char), .initialized ST, .fieldLink ST 9 ST "value" "[B", .fieldLink ST 38 ST "COMPACT_STRINGS" "Z", .fieldLink ST 15 ST "coder" "B", .code IsL.yN IsL.yB 1 (some .boolean), .methodLink ST 492 IsL.yN, .declares IsL.yN, .selects ST IsL.yN IsL.yN, .instanceMethod IsL.yN,
  .methodLink ST 495 LChA.yN, .static LChA.yN, .code LChA.yN LChA.yB 2 (some .char), .initialized "java/lang/StringLatin1", .methodLink "java/lang/StringLatin1" 9 JO.Str_checkIndex.yN, .static JO.Str_checkIndex.yN, .code JO.Str_checkIndex.yN JO.Str_checkIndex.yB 2 none,
  .fieldLink ST 1053 "jdk/internal/util/Preconditions" "SIOOBE_FORMATTER" "Ljava/util/function/BiFunction;", .methodLink ST 1059 JC.PreCheck.yN, .static JC.PreCheck.yN, .code JC.PreCheck.yN JC.PreCheck.yB 3 (some .int), .initialized "jdk/internal/util/Preconditions"]
theorem tabChN_of {a : Array Value} {s : State} (h : ∀ w ∈ wordsChN, w.before a s = true) : ChN.tab.before a s = true := by
  have hp : JC.PreCheck.tab.before a s = true := unparts (wk h (.code JC.PreCheck.yN JC.PreCheck.yB 3 (some .int))) (wks h (.initialized JC.PreCheck.yN.cls :: JC.PreCheck.site))
  have qk := consq hp h
  have hk : JO.Str_checkIndex.tab.before a s = true := unparts (wk qk (.code JO.Str_checkIndex.yN JO.Str_checkIndex.yB 2 none)) (wks qk (.initialized JO.Str_checkIndex.yN.cls :: JO.Str_checkIndex.site))
  have ql := consq hk h
  have hl : LChA.tab.before a s = true := unparts (wk ql (.code LChA.yN LChA.yB 2 (some .char))) (wks ql (.initialized LChA.yN.cls :: LChA.site))
  have hi : IsL.tab.before a s = true := unparts (wk h (.code IsL.yN IsL.yB 1 (some .boolean))) (wks h (.initialized IsL.yN.cls :: IsL.site))
  have q := consq hi (consq hl h)
  exact unparts (wk q (.code ChN.yN ChN.yB 2 (some .char))) (wks q (.initialized ChN.yN.cls :: ChN.site))
theorem movedChN {Z s : State} {a0 args : Array Value} (hZ : Z.Warmed39 s.vm) (hw : ∀ d ∈ wordsChN, d.before a0 Z = true) : ∀ d ∈ wordsChN, d.before args s = true := fun d hd => by
  have t : ∀ d ∈ wordsChN, (d.onTables && d.keepsFace) = true := by decide +kernel
  exact RoadKit.mv hZ (hw d hd) (t d hd)
/-- **charAt(i) OF A LATIN-1 STRING**, i < n: the char -/
theorem chN {p : Program} {l : Launch} {e : Env} {R : Room} {s : State} {args : Array Value} {below : List Frame} {len W : Nat} {Z : State} {a0 : Array Value} {h : Heap} (hZ : Z.Warmed39 s.vm) (hw : ∀ d ∈ wordsChN, d.before a0 Z = true) {kI : Nat} (wi : (Jvm.Cond.instantiable ST kI).before a0 Z = true)
    {x t : Addr} {kb : ClassId} {cs : List Int32} {N2 z : Int32} {vs : List Value} {fm : Value} {i : Nat} {j : Int32} (E : RoadKit.Exa Z h x ST) (V : RoadKit.Fld Z h x ST "value" "[B" (.ref t)) (C : RoadKit.Fld Z h x ST "coder" "B" (.int 0)) (K : RoadKit.Arv Z h t kb .byte N2 vs (.int 0)) (hc : CodA cs 0 N2 vs) (hb : ∀ c ∈ cs, ¬ c < 0 ∧ ¬ (65535 : Int32) < c)
    (S : RoadKit.Sta Z h ST "COMPACT_STRINGS" "Z" (.int z)) (hz : ¬ z = 0) (F : RoadKit.Sta Z h "jdk/internal/util/Preconditions" "SIOOBE_FORMATTER" "Ljava/util/function/BiFunction;" fm) (rf : fm.isRef = true) (l2 : cs.length ≤ 4000) (hi : i < cs.length) (hj : j = Int32.ofNat i) (hfr : 4 ≤ R.frames) (hlo : W + 53 ≤ R.locals) :
    Back l R p e below s args (⟨"java/lang/String", "charAt", "(I)C"⟩ : MethodName) len W (fun P a => a = #[.ref x, .int j] ∧ P.U.heap = h ∧ P.cells + 0 ≤ R.cells ∧ P.slots + 0 ≤ R.slots)
      (fun P _ v B => ∃ L, (v = some (.int (cs.getD i 0)) ∧ L = [] ∧ B.U.heap = h) ∧ B.locs = P.locs ++ L ∧ B.cells = P.cells + 0 ∧ B.slots = P.slots + 0) := by
  subst hj
  intro m meth c P g ig mk a X hg hsize hdg hW hn hp'
  obtain ⟨rfl, rfl, r1, r2⟩ := hp'
  have al : Z.vm.Alike P.U.vm := hZ.alike.trans X.warmed.alike
  obtain ⟨A, hx⟩ := txt_of wi al E V C K hc hb l2
  obtain ⟨v, B, X', ⟨⟨hv, hh⟩, hl, hk, hs⟩, st⟩ := ChN.pays x t A cs.length (fun j => cs.getD j 0) z fm i (tabChN_of (movedChN hZ hw)) hfr hlo m meth c P g ig mk _ X hg hsize hdg hW hn ⟨r1, r2, rfl, hx, hi, sta_is al S, hz, sta_is al F, rf⟩
  exact ⟨v, B, X', ⟨[], ⟨hv, rfl, hh⟩, hl, hk, hs⟩, st⟩
/-- what backV says of its String, as the contracts of this text ask it: cs's low bytes, coder 0 -/
theorem codOf {cs : List Int32} {n : Nat} (hn : cs.length = n) (hb : ∀ c ∈ cs, ¬ 255 < c) : CodA cs 0 (Int32.ofNat n) ((cs.map lo8).map Value.int) := Or.inl ⟨rfl, by rw [hn], by simp [List.map_map, Function.comp_def], hb⟩
end StrChars.Road
end Jvm.Pilot.@@N@@
namespace Jvm.Pilot.@@N@@
open Jvm Jvm.ClassFile Sem Op Lib Jvm.Free Jvm.Stand Jvm.LawKit Jvm.RoadKit Bundle Jvm.Pilot.@@N@@.Jvm.D
theorem own_up (cs : List Int32) (h : ∀ c ∈ cs, ¬ c < 0 ∧ ¬ (255 : Int32) < c) : ∀ c ∈ cs, ¬ c < 0 ∧ ¬ (65535 : Int32) < c := fun c hc => ⟨(h c hc).1, fun q => (h c hc).2 (by rw [Int32.lt_iff_toInt_lt] at q ⊢; have e1 : (65535 : Int32).toInt = 65535 := rfl; have e2 : (255 : Int32).toInt = 255 := rfl; omega)⟩
theorem own_hw_backV {Z : State} {a0 : Array Value} (hw : ∀ d ∈ tables_1, d.before a0 Z = true) : ∀ d ∈ StrChars.Road.words, d.before a0 Z = true := fun d hd => hw d ((by decide +kernel : ∀ d ∈ StrChars.Road.words, d ∈ tables_1) d hd)
theorem own_hw_lenW {Z : State} {a0 : Array Value} (hw : ∀ d ∈ tables_1, d.before a0 Z = true) : ∀ d ∈ StrChars.Road.wordsLen, d.before a0 Z = true := fun d hd => hw d ((by decide +kernel : ∀ d ∈ StrChars.Road.wordsLen, d ∈ tables_1) d hd)
theorem own_hw_empW {Z : State} {a0 : Array Value} (hw : ∀ d ∈ tables_1, d.before a0 Z = true) : ∀ d ∈ StrChars.Road.wordsEmp, d.before a0 Z = true := fun d hd => hw d ((by decide +kernel : ∀ d ∈ StrChars.Road.wordsEmp, d ∈ tables_1) d hd)
theorem own_hw_chN {Z : State} {a0 : Array Value} (hw : ∀ d ∈ tables_1, d.before a0 Z = true) : ∀ d ∈ StrChars.Road.wordsChN, d.before a0 Z = true := fun d hd => hw d ((by decide +kernel : ∀ d ∈ StrChars.Road.wordsChN, d ∈ tables_1) d hd)
theorem own_safe_null {Z : State} {EL : List (String × Nat)} {vm : Vm} {h : Heap} {x : Addr} (hal : Z.vm.Alike vm) (E : Exa Z h x "java/lang/String") (F : Fld Z h x "java/lang/String" "value" "[B" .null) : Safe Z EL vm h x := fun B => by
  obtain ⟨cell, cf, k, i, f, h1, h2, h3, -, -, -, h7⟩ := F
  obtain ⟨p, -, u, a, -, q, -, FF, rfl | rfl⟩ := B
  · cases (show h[q.sa]? = some q.sC from FF.ha).symm.trans h1
    obtain ⟨cS, ⟨⟨-, -, -, ⟨c1, k1, i1, f1, -⟩, -, -, -, v1, -⟩, -⟩, -⟩ := FF
    obtain ⟨k3, e3⟩ := ff_back (U := Wst Z vm h) hal f1
    cases h2.symm.trans e3
    rw [v1] at h7
    cases h7
  · cases (show h[q.sd]? = some q.SA from FF.hd).symm.trans h1
    obtain ⟨cS, -, -, fB, -⟩ := FF
    obtain ⟨cell2, kk, e1, e2, e3, -, -⟩ := E
    cases h1.symm.trans e1
    have fB' : vm.findClass "[B" = some q.SA.cls := fB
    rw [hal.findClass] at fB'
    obtain ⟨k1, q1, q2⟩ := Vm.findClass_spec fB'
    obtain ⟨k2, q3, q4⟩ := Vm.findClass_spec e2
    cases q1.symm.trans q3
    exact absurd (q2.symm.trans q4) (by decide)
theorem own_hw_str {Z : State} {a0 : Array Value} (hw : ∀ d ∈ tables_1, d.before a0 Z = true) : ∀ d ∈ Bundle.stringAtoms, d.before a0 Z = true := fun d hd => hw d ((by decide +kernel : ∀ d ∈ Bundle.stringAtoms, d ∈ tables_1) d hd)
theorem own_EW {Z : State} {a0 : Array Value} (hw : ∀ d ∈ tables_1, d.before a0 Z = true) : EW Z a0 [("java/lang/String", 7)] := (EW.cons (hw _ (List.mem_of_getElem? (i := 21) rfl)) (by decide) EW.nil)
theorem own_clamp {j : Nat} (h : j < 2 ^ 31) : (Int32.ofNat j).toNatClampNeg = j := clamp_of rfl h
theorem own_toInt {j : Nat} (h : j < 2 ^ 31) : (Int32.ofNat j).toInt = (j : Int) := toInt_of rfl h
theorem own_inb {i n : Nat} (h : i < n) (hn : n < 2 ^ 31) : ¬ (Int32.ofNat i < (0 : Int32)) ∧ Int32.ofNat i < Int32.ofNat n := by
  rw [Int32.lt_iff_toInt_lt, Int32.lt_iff_toInt_lt, own_toInt (by omega), own_toInt hn]
  have e0 : (0 : Int32).toInt = 0 := rfl
  omega
theorem own_nlt {i n : Nat} (h : n ≤ i) (hi : i < 2 ^ 31) : ¬ (Int32.ofNat i < Int32.ofNat n) := by
  rw [Int32.lt_iff_toInt_lt, own_toInt hi, own_toInt (by omega)]
  omega
theorem own_oinj {i n : Nat} (hi : i < 2 ^ 31) (hn : n < 2 ^ 31) (h : Int32.ofNat i = Int32.ofNat n) : i = n := by
  have q := congrArg Int32.toInt h
  rw [own_toInt hi, own_toInt hn] at q
  omega
theorem own_shl1 (i : Nat) : Int32.ofNat i <<< ((1 : Int32) &&& 31) = Int32.ofNat (2 * i) := by
  rw [shlm (show (1 : Int32) <<< ((1 : Int32) &&& 31) = 2 by decide), Nat.mul_comm, Int32.ofNat_mul]
  rfl
theorem own_nc {c : Int32} (h0 : ¬ c < 0) (h1 : ¬ (65535 : Int32) < c) : c.toUInt32.toUInt16.toUInt32.toInt32 = c := by
  have q := c_i2c c
  rw [Int32.lt_iff_toInt_lt] at h0 h1
  have e0 : (0 : Int32).toInt = 0 := rfl
  have e1 : (65535 : Int32).toInt = 65535 := rfl
  apply Int32.toInt_inj.mp
  omega
theorem own_i2c (x : Int32) : ¬ (x.toUInt32.toUInt16.toUInt32.toInt32) < 0 ∧ ¬ (65535 : Int32) < (x.toUInt32.toUInt16.toUInt32.toInt32) := by
  have q := c_i2c x
  rw [Int32.lt_iff_toInt_lt, Int32.lt_iff_toInt_lt]
  have e0 : (0 : Int32).toInt = 0 := rfl
  have e1 : (65535 : Int32).toInt = 65535 := rfl
  omega
theorem own_mapat {cs : List Int32} {j : Nat} {d : Value} (hj : j < cs.length) (hN : cs.length < 2 ^ 31) : (cs.map Value.int).getD (Int32.ofNat j).toNatClampNeg d = .int (cs.getD j 0) := by
  rw [own_clamp (by omega)]
  simp [List.getD_eq_getElem?_getD, hj]
theorem own_nb (x : Int32) : nar .byte (x.toInt8.toInt32) = x.toInt8.toInt32 := by
  show (x.toInt8.toInt32).toInt8.toInt32 = x.toInt8.toInt32
  rw [Int8.toInt8_toInt32]
theorem d_jdk_43_method_3_code_0 : decode jdk_43_method_3_code 0 = .ok (.iload_n 0, 1) := by decide +kernel
theorem d_jdk_43_method_3_code_1 : decode jdk_43_method_3_code 1 = .ok (.sipush 255, 3) := by decide +kernel
theorem d_jdk_43_method_3_code_4 : decode jdk_43_method_3_code 4 = .ok (.if_icmp .gt 7, 3) := by decide +kernel
theorem d_jdk_43_method_3_code_7 : decode jdk_43_method_3_code 7 = .ok (.iconst 1, 1) := by decide +kernel
theorem d_jdk_43_method_3_code_8 : decode jdk_43_method_3_code 8 = .ok (.goto 4, 3) := by decide +kernel
theorem d_jdk_43_method_3_code_12 : decode jdk_43_method_3_code 12 = .ok (.ireturn, 1) := by decide +kernel
theorem ef_0 (m : MethodId) (x0 : Int32) : entryFrame m #[(.int x0)] 1 = mkF m 0 #[.val (.int x0)] [] := by first | (simp [entryFrame, mkF, argsToLocals, Value.category]; done) | rfl
theorem pn_0 : plainName "java/lang/StringLatin1" = true := by first | (simp [plainName, overriddenIn]; done) | decide +kernel
def Q_canEnc (Z : State) (xc : Int32) (h0 : Heap) (n0 : Nat) (v : Option Value) (h : Heap) (L : List Loc) : Prop := (v = some (.int (1 : Int32))) ∧ (Fr n0 L) ∧ (h = h0)
set_option maxRecDepth 65536 in
set_option maxHeartbeats 40000000 in
theorem rm_canEnc (l : Launch) (Z : State) (a0 : Array Value) (hw : ∀ d ∈ tables_1, d.before a0 Z = true) (ws : List Jvm.Cond) (xc : Int32) (h0 : Heap) (n0 : Nat) (Z0 : n0 ≤ h0.size) (h255 : ¬ (255 : Int32) < xc) :
    MetFree l (⟨"java/lang/StringLatin1", "canEncode", "(C)Z"⟩ : MethodName) (head1 (Jvm.Cond.code (⟨"java/lang/StringLatin1", "canEncode", "(C)Z"⟩ : MethodName) jdk_43_method_3_code 1 (some .boolean) :: ws) ({ frames := 0, cells := 0, slots := 0, locals := 0 } : Room)) (fun a₁ U₁ => a₁ = #[(.int xc)] ∧ Z.Warmed39 U₁.vm ∧ U₁.heap = h0) (fun _ _ _ _ _ => True) (fun _ U₁ o₁ U₂ => ∃ v₁ L₁, o₁ = .returned v₁ ∧ Q_canEnc Z xc h0 n0 v₁ U₂.heap L₁ ∧ FrameEnd U₁ o₁ U₂ L₁ ({ frames := 0, cells := 0, slots := 0, locals := 0 } : Room).cells ({ frames := 0, cells := 0, slots := 0, locals := 0 } : Room).slots) := by
  refine MetFree.of_bodySF (plainFor_of_name pn_0) hisR ?_
  intro p e s m args below meth c s₁ Bd hml0 hP hK
  obtain ⟨rfl, hZ, hh⟩ := hP
  have hx := Bd.exec
  have hby := Bd.bytes
  have hml : c.maxLocals = 1 := hml0
  have hown : s.vm.findClass "java/lang/StringLatin1" = some m.cls := findClass_of_methodNamed Bd.named
  have hnm := (name_of_methodNamed Bd.named Bd.method).1
  have X0 : Stand p l e ({ frames := 0, cells := 0, slots := 0, locals := 0 } : Room) s m #[(.int xc)] below meth c s₁ [] 0 0 := Stand.of_body Bd
  have e0 : s₁.heap = h0 := by rw [← hh, Bd.state]; rfl
  have N0 := Fr.nil n0
  have pre0 : ∀ t, Steps p.tables e below (s₁.setTop (mkF m 0 #[.val (.int xc)] [])) t → Steps p.tables e below (s₁.setTop (entryFrame m #[(.int xc)] 1)) t := fun t k => castTop (ef_0 m xc) k
  obtain ⟨fs, hr, hrun, hended, hW, hsame⟩ := X0.leave (v := some (.int (1 : Int32))) (fun h => by rw [Bd.returns] at h; cases h)
  refine ⟨_, _, pre0 _ ?_, hrun, hended, _, _, rfl, ?_, ⟨_, rfl⟩, hW, hsame.mono (by decide) (by decide)⟩
  · refine XS.iloadN X0.here hx rfl (hb hby d_jdk_43_method_3_code_0) rfl ?_
    show Steps p.tables e below (s₁.setTop (mkF m 1 #[.val (.int xc)] [(.int xc)])) _
    refine XS.sipush X0.here hx rfl (hb hby d_jdk_43_method_3_code_1) ?_
    show Steps p.tables e below (s₁.setTop (mkF m 4 #[.val (.int xc)] [(.int (255 : Int32)), (.int xc)])) _
    refine XS.icmpNo X0.here hx rfl (hb hby d_jdk_43_method_3_code_4) rfl (flt (h255 : ¬ ((255 : Int32) < xc))).2.2.1 ?_
    show Steps p.tables e below (s₁.setTop (mkF m 7 #[.val (.int xc)] [])) _
    refine XS.iconst X0.here hx rfl (hb hby d_jdk_43_method_3_code_7) ?_
    show Steps p.tables e below (s₁.setTop (mkF m 8 #[.val (.int xc)] [(.int (1 : Int32))])) _
    refine XS.goto X0.here hx rfl (pc0 := 8) (pc' := 12) rfl (hb hby d_jdk_43_method_3_code_8) (by decide) (by decide) ?_
    show Steps p.tables e below (s₁.setTop (mkF m 12 #[.val (.int xc)] [(.int (1 : Int32))])) _
    exact retN X0 hx (t := .boolean) Bd.returns (by simp) (hb hby d_jdk_43_method_3_code_12) hr
  · show Q_canEnc Z xc h0 n0 _ s₁.heap _
    rw [e0]
    exact ⟨rfl, N0, rfl⟩
abbrev own_bs (cs : List Int32) : List Value := cs.map fun c => Value.int (StrChars.lo8 c)
abbrev own_bv (cs : List Int32) : List Value := own_bs cs ++ List.replicate (16 - cs.length) (.int (0 : Int32))
theorem own_bsl (cs : List Int32) : (own_bs cs).length = cs.length := by simp
theorem own_bvl {cs : List Int32} (h : cs.length ≤ 16) : (own_bv cs).length = 16 := by simp; omega
theorem own_cod0 {cs : List Int32} {nn : Int32} {vs : List Value} (h : StrChars.Road.CodA cs 0 nn vs) : nn = Int32.ofNat cs.length ∧ vs = own_bs cs := by
  rcases h with ⟨-, h1, h2, -⟩ | ⟨h1, -⟩
  · exact ⟨h1, h2⟩
  · exact absurd h1 (by decide)
theorem own_codlat {cs : List Int32} {nn : Int32} {vs : List Value} (h : StrChars.Road.CodA cs 0 nn vs) : ∀ c ∈ cs, ¬ (255 : Int32) < c := by
  rcases h with ⟨-, -, -, h⟩ | ⟨h1, -⟩
  · exact h
  · exact absurd h1 (by decide)
theorem own_range {n : Nat} (l : List Value) (d : Value) (h : l.length = n) : ((List.range n).map fun i => l.getD i d) = l := by
  subst h
  apply List.ext_getElem
  · simp
  · intro i h1 h2
    simp only [List.getElem_map, List.getElem_range, List.getD_eq_getElem?_getD]
    rw [List.getElem?_eq_getElem h2]
    rfl
theorem own_cat16 {cs ds : List Int32} (h : cs.length + ds.length ≤ 16) : (own_bv cs).take (Int32.ofNat cs.length).toNatClampNeg ++ ((List.range (Int32.ofNat ds.length).toNatClampNeg).map fun i => (own_bs ds).getD ((0 : Int32).toNatClampNeg + i) (.int 0)) ++ (own_bv cs).drop ((Int32.ofNat cs.length).toNatClampNeg + (Int32.ofNat ds.length).toNatClampNeg) = own_bv (cs ++ ds) := by
  rw [own_clamp (j := cs.length) (by omega), own_clamp (j := ds.length) (by omega)]
  have e : (fun i => (own_bs ds).getD ((0 : Int32).toNatClampNeg + i) (.int 0)) = fun i => (own_bs ds).getD i (.int 0) := by
    funext i
    have z : (0 : Int32).toNatClampNeg = 0 := by decide
    rw [z, Nat.zero_add]
  rw [e, own_range (own_bs ds) _ (own_bsl ds)]
  have t1 : (own_bv cs).take cs.length = own_bs cs := by
    rw [List.take_append_of_le_length (by rw [own_bsl]; exact Nat.le_refl _), List.take_of_length_le (by rw [own_bsl]; exact Nat.le_refl _)]
  have t2 : (own_bv cs).drop (cs.length + ds.length) = List.replicate (16 - (cs ++ ds).length) (.int (0 : Int32)) := by
    rw [List.drop_append, List.drop_of_length_le (by rw [own_bsl]; omega), own_bsl, List.drop_replicate, List.nil_append, List.length_append]
    congr 1
    omega
  rw [t1, t2]
  simp only [own_bv, own_bs, List.map_append]
theorem own_cut {cs : List Int32} (h : cs.length ≤ 16) : (List.replicate cs.length (.int (0 : Int32))).take (0 : Int32).toNatClampNeg ++ ((List.range (Int32.ofNat cs.length).toNatClampNeg).map fun i => (own_bv cs).getD ((0 : Int32).toNatClampNeg + i) (.int (0 : Int32))) ++ (List.replicate cs.length (.int (0 : Int32))).drop ((0 : Int32).toNatClampNeg + (Int32.ofNat cs.length).toNatClampNeg) = own_bs cs := by
  have z : (0 : Int32).toNatClampNeg = 0 := by decide
  rw [own_clamp (j := cs.length) (by omega), z, Nat.zero_add, List.take_zero, List.nil_append, List.drop_of_length_le (by simp), List.append_nil]
  have e : ((List.range cs.length).map fun i => (own_bv cs).getD (0 + i) (.int (0 : Int32))) = (List.range cs.length).map fun i => (own_bs cs).getD i (.int (0 : Int32)) := by
    apply List.map_congr_left
    intro i hi
    have hi' : i < cs.length := List.mem_range.mp hi
    rw [Nat.zero_add, List.getD_eq_getElem?_getD, List.getD_eq_getElem?_getD, List.getElem?_append_left (by rw [own_bsl]; exact hi')]
  rw [e, own_range (own_bs cs) _ (own_bsl cs)]
theorem own_push16 {cs : List Int32} (c : Int32) (h : cs.length < 16) : (own_bv cs).set cs.length (.int (nar .byte (c.toInt8.toInt32))) = own_bv (cs ++ [c]) := by
  have hr : List.replicate (16 - cs.length) (Value.int (0 : Int32)) = .int (0 : Int32) :: List.replicate (16 - (cs.length + 1)) (.int (0 : Int32)) := by
    rw [show 16 - cs.length = 16 - (cs.length + 1) + 1 by omega, List.replicate_succ]
  rw [own_nb]
  simp only [own_bv]
  rw [hr, List.set_append, if_neg (by rw [own_bsl]; omega), own_bsl, Nat.sub_self]
  simp [own_bs, StrChars.lo8]
theorem own_shl0 (x : Int32) : x <<< ((0 : Int32) &&& 31) = x := by
  rw [shlm (show (1 : Int32) <<< ((0 : Int32) &&& 31) = 1 by decide), Int32.mul_one]
theorem own_irr (x : Int32) : ¬ (x < x) := by rw [Int32.lt_iff_toInt_lt]; omega
theorem own_addn (a b : Nat) : Int32.ofNat a + Int32.ofNat b = Int32.ofNat (a + b) := (Int32.ofNat_add a b).symm
theorem own_fit16 {a : Nat} (h : a ≤ 16) : ¬ ((0 : Int32) < Int32.ofNat a - (16 : Int32)) := by
  rw [Int32.lt_iff_toInt_lt]
  have e1 := own_toInt (j := a) (by omega)
  have e2 := c_isub (Int32.ofNat a) 16
  have e3 := rng32 (Int32.ofNat a - 16)
  have e4 : (16 : Int32).toInt = 16 := rfl
  have e5 : (0 : Int32).toInt = 0 := rfl
  omega
theorem own_selpriv {y : MethodName} {s : State} {args : Array Value} {C : String} (hy : y.cls ≠ "java/lang/invoke/MethodHandle" ∧ y.cls ≠ "java/lang/invoke/VarHandle") (hsel : (Jvm.Cond.selects C y y).before args s = true) (hpriv : (Jvm.Cond.privateMethod y).before args s = true) (hinst : (Jvm.Cond.instanceMethod y).before args s = true) : (Jvm.Cond.selects y.cls y y).before args s = true := by
  obtain ⟨c, r, m, q1, q2, q3, q4, kP, hkP, hkPi⟩ := Cond.selects_spec hsel
  obtain ⟨mk, methM, hnamed, hmethM, -, -⟩ := Cond.instanceMethod_spec hinst
  have e : m = mk := Option.some.inj (q3.symm.trans hnamed)
  subst e
  have hfound : s.methodFound? y.cls y.name y.desc = some m := State.methodFound?_of_named hnamed hy
  have hcls : s.vm.findClass y.cls = some m.cls := findClass_of_methodNamed hnamed
  have hs : selectMethod {} s.vm m.cls m = .method m := selectMethod_private hmethM (Cond.privateMethod_at hpriv m methM hnamed hmethM)
  simp only [Cond.before, Cond.holds, Cond.value, hcls, hfound, hnamed, hs, hkP]
  simp; exact hkPi
theorem own_notface {s : State} {args : Array Value} {C : String} {y z : MethodName} (hc : z.cls = y.cls) (w : (Jvm.Cond.selects C z z).before args s = true) : NotFace s y := fun r0 h0 => by
  obtain ⟨c2, r2, m2, q1, q2, q3, q4, kP, hkP, hkPi⟩ := Cond.selects_spec w
  have e1 := findClass_of_methodNamed h0
  have e2 := findClass_of_methodNamed q3
  rw [hc] at e2
  have e : r0.cls = m2.cls := Option.some.inj (e1.symm.trans e2)
  exact ⟨kP, by rw [e]; exact hkP, hkPi⟩
theorem own_same {s : State} {args : Array Value} {C : String} {y z : MethodName} (hy : y.cls ≠ "java/lang/invoke/MethodHandle" ∧ y.cls ≠ "java/lang/invoke/VarHandle") (hc : z.cls = y.cls) (w : (Jvm.Cond.selects C z z).before args s = true) (hi : (Jvm.Cond.instanceMethod y).before args s = true) : (Jvm.Cond.sameMethod y.cls y.cls y.name y.desc).before args s = true := by
  obtain ⟨mk, methM, hnamed, hmethM, -, -⟩ := Cond.instanceMethod_spec hi
  obtain ⟨kP, hkP, hkPi⟩ := own_notface hc w mk hnamed
  have hfound : s.methodFound? y.cls y.name y.desc = some mk := State.methodFound?_of_named hnamed hy
  have hcls : s.vm.findClass y.cls = some mk.cls := findClass_of_methodNamed hnamed
  simp only [Cond.before, Cond.holds, Cond.value, hcls, hfound, hnamed, hkP]
  simp [hkPi]
theorem d_jdk_42_method_152_code_0 : decode jdk_42_method_152_code 0 = .ok (.getstatic 38, 3) := by decide +kernel
theorem d_jdk_42_method_152_code_3 : decode jdk_42_method_152_code 3 = .ok (.ifCond .eq 10, 3) := by decide +kernel
theorem d_jdk_42_method_152_code_6 : decode jdk_42_method_152_code 6 = .ok (.aload_n 0, 1) := by decide +kernel
theorem d_jdk_42_method_152_code_7 : decode jdk_42_method_152_code 7 = .ok (.getfield 15, 3) := by decide +kernel
theorem d_jdk_42_method_152_code_10 : decode jdk_42_method_152_code 10 = .ok (.goto 4, 3) := by decide +kernel
theorem d_jdk_42_method_152_code_14 : decode jdk_42_method_152_code 14 = .ok (.ireturn, 1) := by decide +kernel
theorem ef_1 (m : MethodId) (x0 : Addr) : entryFrame m #[(.ref x0)] 1 = mkF m 0 #[.val (.ref x0)] [] := by first | (simp [entryFrame, mkF, argsToLocals, Value.category]; done) | rfl
theorem pn_1 : plainName "java/lang/String" = true := by first | (simp [plainName, overriddenIn]; done) | decide +kernel
def Q_scod (Z : State) (xs : Addr) (G : Int32) (cd : Int32) (h0 : Heap) (n0 : Nat) (v : Option Value) (h : Heap) (L : List Loc) : Prop := (v = some (.int cd)) ∧ (Fr n0 L) ∧ (h = h0)
set_option maxRecDepth 65536 in
set_option maxHeartbeats 40000000 in
theorem rm_scod (l : Launch) (Z : State) (a0 : Array Value) (hw : ∀ d ∈ tables_1, d.before a0 Z = true) (ws : List Jvm.Cond) (xs : Addr) (G : Int32) (cd : Int32) (h0 : Heap) (n0 : Nat) (Z0 : n0 ≤ h0.size) (q0 : Sta Z Z.heap "java/lang/String" "COMPACT_STRINGS" "Z" (.int G)) (hCS : ¬ (G = (0 : Int32))) (q2 : Old Z n0 h0) (q3 : Fld Z h0 xs "java/lang/String" "coder" "B" (.int cd)) (hncd : nar .byte cd = cd) :
    MetFree l (⟨"java/lang/String", "coder", "()B"⟩ : MethodName) (head1 (Jvm.Cond.code (⟨"java/lang/String", "coder", "()B"⟩ : MethodName) jdk_42_method_152_code 1 (some .byte) :: ws) ({ frames := 0, cells := 0, slots := 0, locals := 0 } : Room)) (fun a₁ U₁ => a₁ = #[(.ref xs)] ∧ Z.Warmed39 U₁.vm ∧ U₁.heap = h0) (fun _ _ _ _ _ => True) (fun _ U₁ o₁ U₂ => ∃ v₁ L₁, o₁ = .returned v₁ ∧ Q_scod Z xs G cd h0 n0 v₁ U₂.heap L₁ ∧ FrameEnd U₁ o₁ U₂ L₁ ({ frames := 0, cells := 0, slots := 0, locals := 0 } : Room).cells ({ frames := 0, cells := 0, slots := 0, locals := 0 } : Room).slots) := by
  refine MetFree.of_bodySF (plainFor_of_name pn_1) hisR ?_
  intro p e s m args below meth c s₁ Bd hml0 hP hK
  obtain ⟨rfl, hZ, hh⟩ := hP
  have hx := Bd.exec
  have hby := Bd.bytes
  have hml : c.maxLocals = 1 := hml0
  have hown : s.vm.findClass "java/lang/String" = some m.cls := findClass_of_methodNamed Bd.named
  have hnm := (name_of_methodNamed Bd.named Bd.method).1
  have X0 : Stand p l e ({ frames := 0, cells := 0, slots := 0, locals := 0 } : Room) s m #[(.ref xs)] below meth c s₁ [] 0 0 := Stand.of_body Bd
  have e0 : s₁.heap = h0 := by rw [← hh, Bd.state]; rfl
  have N0 := Fr.nil n0
  have pre0 : ∀ t, Steps p.tables e below (s₁.setTop (mkF m 0 #[.val (.ref xs)] [])) t → Steps p.tables e below (s₁.setTop (entryFrame m #[(.ref xs)] 1)) t := fun t k => castTop (ef_1 m xs) k
  obtain ⟨T301, X301, e301, st301⟩ := getS2 X0 hx hZ hown (host := "") (Or.inl (hw _ (List.mem_of_getElem? (i := 29) rfl))) Via.refl e0 (q0.ext q2.2) (g := (mkF m 0 #[.val (.ref xs)] [])) rfl (hb hby d_jdk_42_method_152_code_0)
  obtain ⟨T302, X302, e302, st302⟩ := getF X301 hx hZ hown (host := "") (Or.inl (hw _ (List.mem_of_getElem? (i := 28) rfl))) Via.refl e301 q3 (g := (mkF m 7 #[.val (.ref xs)] [(.ref xs)])) rfl rfl (hb hby d_jdk_42_method_152_code_7)
  obtain ⟨fs, hr, hrun, hended, hW, hsame⟩ := X302.leave (v := some (.int cd)) (fun h => by rw [Bd.returns] at h; cases h)
  refine ⟨_, _, pre0 _ ?_, hrun, hended, _, _, rfl, ?_, ⟨_, rfl⟩, hW, hsame.mono (by decide) (by decide)⟩
  · refine st301 _ ?_
    show Steps p.tables e below (T301.setTop (mkF m 3 #[.val (.ref xs)] [(.int G)])) _
    refine XS.ifNo X301.here hx rfl (hb hby d_jdk_42_method_152_code_3) rfl ((if0 _ _).trans (feq (hCS : ¬ (G = (0 : Int32)))).1) ?_
    show Steps p.tables e below (T301.setTop (mkF m 6 #[.val (.ref xs)] [])) _
    refine XS.aloadN X301.here hx rfl (hb hby d_jdk_42_method_152_code_6) rfl rfl ?_
    show Steps p.tables e below (T301.setTop (mkF m 7 #[.val (.ref xs)] [(.ref xs)])) _
    refine st302 _ ?_
    show Steps p.tables e below (T302.setTop (mkF m 10 #[.val (.ref xs)] [(.int cd)])) _
    refine XS.goto X302.here hx rfl (pc0 := 10) (pc' := 14) rfl (hb hby d_jdk_42_method_152_code_10) (by decide) (by decide) ?_
    show Steps p.tables e below (T302.setTop (mkF m 14 #[.val (.ref xs)] [(.int cd)])) _
    exact retN X302 hx (t := .byte) Bd.returns (by simp) (hb hby d_jdk_42_method_152_code_14) (by rw [hncd]; exact hr)
  · show Q_scod Z xs G cd h0 n0 _ T302.heap _
    rw [e302]
    exact ⟨rfl, N0, rfl⟩
theorem d_jdk_68_method_68_code_0 : decode jdk_68_method_68_code 0 = .ok (.getstatic 18, 3) := by decide +kernel
theorem d_jdk_68_method_68_code_3 : decode jdk_68_method_68_code 3 = .ok (.ifCond .eq 14, 3) := by decide +kernel
theorem d_jdk_68_method_68_code_6 : decode jdk_68_method_68_code 6 = .ok (.aload_n 0, 1) := by decide +kernel
theorem d_jdk_68_method_68_code_7 : decode jdk_68_method_68_code 7 = .ok (.getfield 22, 3) := by decide +kernel
theorem d_jdk_68_method_68_code_10 : decode jdk_68_method_68_code 10 = .ok (.ifCond .ne 7, 3) := by decide +kernel
theorem d_jdk_68_method_68_code_13 : decode jdk_68_method_68_code 13 = .ok (.iconst 1, 1) := by decide +kernel
theorem d_jdk_68_method_68_code_14 : decode jdk_68_method_68_code 14 = .ok (.goto 4, 3) := by decide +kernel
theorem d_jdk_68_method_68_code_18 : decode jdk_68_method_68_code 18 = .ok (.ireturn, 1) := by decide +kernel
theorem pn_2 : plainName "java/lang/AbstractStringBuilder" = true := by first | (simp [plainName, overriddenIn]; done) | decide +kernel
def Q_bLat (Z : State) (xb : Addr) (G : Int32) (h0 : Heap) (n0 : Nat) (v : Option Value) (h : Heap) (L : List Loc) : Prop := (v = some (.int (1 : Int32))) ∧ (Fr n0 L) ∧ (h = h0)
set_option maxRecDepth 65536 in
set_option maxHeartbeats 40000000 in
theorem rm_bLat (l : Launch) (Z : State) (a0 : Array Value) (hw : ∀ d ∈ tables_1, d.before a0 Z = true) (ws : List Jvm.Cond) (xb : Addr) (G : Int32) (h0 : Heap) (n0 : Nat) (Z0 : n0 ≤ h0.size) (q0 : Sta Z Z.heap "java/lang/String" "COMPACT_STRINGS" "Z" (.int G)) (hCS : ¬ (G = (0 : Int32))) (q2 : Old Z n0 h0) (q3 : Fld Z h0 xb "java/lang/AbstractStringBuilder" "coder" "B" (.int (0 : Int32))) :
    MetFree l (⟨"java/lang/AbstractStringBuilder", "isLatin1", "()Z"⟩ : MethodName) (head1 (Jvm.Cond.code (⟨"java/lang/AbstractStringBuilder", "isLatin1", "()Z"⟩ : MethodName) jdk_68_method_68_code 1 (some .boolean) :: ws) ({ frames := 0, cells := 0, slots := 0, locals := 0 } : Room)) (fun a₁ U₁ => a₁ = #[(.ref xb)] ∧ Z.Warmed39 U₁.vm ∧ U₁.heap = h0) (fun _ _ _ _ _ => True) (fun _ U₁ o₁ U₂ => ∃ v₁ L₁, o₁ = .returned v₁ ∧ Q_bLat Z xb G h0 n0 v₁ U₂.heap L₁ ∧ FrameEnd U₁ o₁ U₂ L₁ ({ frames := 0, cells := 0, slots := 0, locals := 0 } : Room).cells ({ frames := 0, cells := 0, slots := 0, locals := 0 } : Room).slots) := by
  refine MetFree.of_bodySF (plainFor_of_name pn_2) hisR ?_
  intro p e s m args below meth c s₁ Bd hml0 hP hK
  obtain ⟨rfl, hZ, hh⟩ := hP
  have hx := Bd.exec
  have hby := Bd.bytes
  have hml : c.maxLocals = 1 := hml0
  have hown : s.vm.findClass "java/lang/AbstractStringBuilder" = some m.cls := findClass_of_methodNamed Bd.named
  have hnm := (name_of_methodNamed Bd.named Bd.method).1
  have X0 : Stand p l e ({ frames := 0, cells := 0, slots := 0, locals := 0 } : Room) s m #[(.ref xb)] below meth c s₁ [] 0 0 := Stand.of_body Bd
  have e0 : s₁.heap = h0 := by rw [← hh, Bd.state]; rfl
  have N0 := Fr.nil n0
  have pre0 : ∀ t, Steps p.tables e below (s₁.setTop (mkF m 0 #[.val (.ref xb)] [])) t → Steps p.tables e below (s₁.setTop (entryFrame m #[(.ref xb)] 1)) t := fun t k => castTop (ef_1 m xb) k
  obtain ⟨T301, X301, e301, st301⟩ := getS2 X0 hx hZ hown (host := "") (Or.inl (hw _ (List.mem_of_getElem? (i := 133) rfl))) Via.refl e0 (q0.ext q2.2) (g := (mkF m 0 #[.val (.ref xb)] [])) rfl (hb hby d_jdk_68_method_68_code_0)
  obtain ⟨T302, X302, e302, st302⟩ := getF X301 hx hZ hown (host := "") (Or.inl (hw _ (List.mem_of_getElem? (i := 136) rfl))) Via.refl e301 q3 (g := (mkF m 7 #[.val (.ref xb)] [(.ref xb)])) rfl rfl (hb hby d_jdk_68_method_68_code_7)
  obtain ⟨fs, hr, hrun, hended, hW, hsame⟩ := X302.leave (v := some (.int (1 : Int32))) (fun h => by rw [Bd.returns] at h; cases h)
  refine ⟨_, _, pre0 _ ?_, hrun, hended, _, _, rfl, ?_, ⟨_, rfl⟩, hW, hsame.mono (by decide) (by decide)⟩
  · refine st301 _ ?_
    show Steps p.tables e below (T301.setTop (mkF m 3 #[.val (.ref xb)] [(.int G)])) _
    refine XS.ifNo X301.here hx rfl (hb hby d_jdk_68_method_68_code_3) rfl ((if0 _ _).trans (feq (hCS : ¬ (G = (0 : Int32)))).1) ?_
    show Steps p.tables e below (T301.setTop (mkF m 6 #[.val (.ref xb)] [])) _
    refine XS.aloadN X301.here hx rfl (hb hby d_jdk_68_method_68_code_6) rfl rfl ?_
    show Steps p.tables e below (T301.setTop (mkF m 7 #[.val (.ref xb)] [(.ref xb)])) _
    refine st302 _ ?_
    show Steps p.tables e below (T302.setTop (mkF m 10 #[.val (.ref xb)] [(.int (0 : Int32))])) _
    refine XS.ifNo X302.here hx rfl (hb hby d_jdk_68_method_68_code_10) rfl ((if0 _ _).trans (teq ((by decide) : (0 : Int32) = (0 : Int32))).2) ?_
    show Steps p.tables e below (T302.setTop (mkF m 13 #[.val (.ref xb)] [])) _
    refine XS.iconst X302.here hx rfl (hb hby d_jdk_68_method_68_code_13) ?_
    show Steps p.tables e below (T302.setTop (mkF m 14 #[.val (.ref xb)] [(.int (1 : Int32))])) _
    refine XS.goto X302.here hx rfl (pc0 := 14) (pc' := 18) rfl (hb hby d_jdk_68_method_68_code_14) (by decide) (by decide) ?_
    show Steps p.tables e below (T302.setTop (mkF m 18 #[.val (.ref xb)] [(.int (1 : Int32))])) _
    exact retN X302 hx (t := .boolean) Bd.returns (by simp) (hb hby d_jdk_68_method_68_code_18) hr
  · show Q_bLat Z xb G h0 n0 _ T302.heap _
    rw [e302]
    exact ⟨rfl, N0, rfl⟩
theorem d_jdk_68_method_64_code_0 : decode jdk_68_method_64_code 0 = .ok (.aload_n 0, 1) := by decide +kernel
theorem d_jdk_68_method_64_code_1 : decode jdk_68_method_64_code 1 = .ok (.getfield 15, 3) := by decide +kernel
theorem d_jdk_68_method_64_code_4 : decode jdk_68_method_64_code 4 = .ok (.areturn, 1) := by decide +kernel
def Q_gval (Z : State) (xb : Addr) (va : Addr) (h0 : Heap) (n0 : Nat) (v : Option Value) (h : Heap) (L : List Loc) : Prop := (v = some (.ref va)) ∧ (Fr n0 L) ∧ (h = h0)
set_option maxRecDepth 65536 in
set_option maxHeartbeats 40000000 in
theorem rm_gval (l : Launch) (Z : State) (a0 : Array Value) (hw : ∀ d ∈ tables_1, d.before a0 Z = true) (ws : List Jvm.Cond) (xb : Addr) (va : Addr) (h0 : Heap) (n0 : Nat) (Z0 : n0 ≤ h0.size) (q0 : Fld Z h0 xb "java/lang/AbstractStringBuilder" "value" "[B" (.ref va)) :
    MetFree l (⟨"java/lang/AbstractStringBuilder", "getValue", "()[B"⟩ : MethodName) (head1 (Jvm.Cond.code (⟨"java/lang/AbstractStringBuilder", "getValue", "()[B"⟩ : MethodName) jdk_68_method_64_code 1 (some (.array .byte)) :: ws) ({ frames := 0, cells := 0, slots := 0, locals := 0 } : Room)) (fun a₁ U₁ => a₁ = #[(.ref xb)] ∧ Z.Warmed39 U₁.vm ∧ U₁.heap = h0) (fun _ _ _ _ _ => True) (fun _ U₁ o₁ U₂ => ∃ v₁ L₁, o₁ = .returned v₁ ∧ Q_gval Z xb va h0 n0 v₁ U₂.heap L₁ ∧ FrameEnd U₁ o₁ U₂ L₁ ({ frames := 0, cells := 0, slots := 0, locals := 0 } : Room).cells ({ frames := 0, cells := 0, slots := 0, locals := 0 } : Room).slots) := by
  refine MetFree.of_bodySF (plainFor_of_name pn_2) hisR ?_
  intro p e s m args below meth c s₁ Bd hml0 hP hK
  obtain ⟨rfl, hZ, hh⟩ := hP
  have hx := Bd.exec
  have hby := Bd.bytes
  have hml : c.maxLocals = 1 := hml0
  have hown : s.vm.findClass "java/lang/AbstractStringBuilder" = some m.cls := findClass_of_methodNamed Bd.named
  have hnm := (name_of_methodNamed Bd.named Bd.method).1
  have X0 : Stand p l e ({ frames := 0, cells := 0, slots := 0, locals := 0 } : Room) s m #[(.ref xb)] below meth c s₁ [] 0 0 := Stand.of_body Bd
  have e0 : s₁.heap = h0 := by rw [← hh, Bd.state]; rfl
  have N0 := Fr.nil n0
  have pre0 : ∀ t, Steps p.tables e below (s₁.setTop (mkF m 0 #[.val (.ref xb)] [])) t → Steps p.tables e below (s₁.setTop (entryFrame m #[(.ref xb)] 1)) t := fun t k => castTop (ef_1 m xb) k
  obtain ⟨T301, X301, e301, st301⟩ := getF X0 hx hZ hown (host := "") (Or.inl (hw _ (List.mem_of_getElem? (i := 134) rfl))) Via.refl e0 q0 (g := (mkF m 1 #[.val (.ref xb)] [(.ref xb)])) rfl rfl (hb hby d_jdk_68_method_64_code_1)
  obtain ⟨fs, hr, hrun, hended, hW, hsame⟩ := X301.leave (v := some (.ref va)) (fun h => by rw [Bd.returns] at h; cases h)
  refine ⟨_, _, pre0 _ ?_, hrun, hended, _, _, rfl, ?_, ⟨_, rfl⟩, hW, hsame.mono (by decide) (by decide)⟩
  · refine XS.aloadN X0.here hx rfl (hb hby d_jdk_68_method_64_code_0) rfl rfl ?_
    show Steps p.tables e below (s₁.setTop (mkF m 1 #[.val (.ref xb)] [(.ref xb)])) _
    refine st301 _ ?_
    show Steps p.tables e below (T301.setTop (mkF m 4 #[.val (.ref xb)] [(.ref va)])) _
    jvm_step X301.here [X301.here.top, hx, (hb hby d_jdk_68_method_64_code_4), X301.method', Bd.returns, Value.isRef, FieldType.isReference]
    first | (intro acts; rw [hr _ acts rfl rfl rfl]) | rw [hr _ _ rfl rfl rfl]
    exact Steps.refl _
  · show Q_gval Z xb va h0 n0 _ T301.heap _
    rw [e301]
    exact ⟨rfl, N0, rfl⟩
theorem d_jdk_68_method_6_code_0 : decode jdk_68_method_6_code 0 = .ok (.aload_n 0, 1) := by decide +kernel
theorem d_jdk_68_method_6_code_1 : decode jdk_68_method_6_code 1 = .ok (.getfield 79, 3) := by decide +kernel
theorem d_jdk_68_method_6_code_4 : decode jdk_68_method_6_code 4 = .ok (.ireturn, 1) := by decide +kernel
def Q_alen (Z : State) (xb : Addr) (ct : Int32) (h0 : Heap) (n0 : Nat) (v : Option Value) (h : Heap) (L : List Loc) : Prop := (v = some (.int ct)) ∧ (Fr n0 L) ∧ (h = h0)
set_option maxRecDepth 65536 in
set_option maxHeartbeats 40000000 in
theorem rm_alen (l : Launch) (Z : State) (a0 : Array Value) (hw : ∀ d ∈ tables_1, d.before a0 Z = true) (ws : List Jvm.Cond) (xb : Addr) (ct : Int32) (h0 : Heap) (n0 : Nat) (Z0 : n0 ≤ h0.size) (q0 : Fld Z h0 xb "java/lang/AbstractStringBuilder" "count" "I" (.int ct)) :
    MetFree l (⟨"java/lang/AbstractStringBuilder", "length", "()I"⟩ : MethodName) (head1 (Jvm.Cond.code (⟨"java/lang/AbstractStringBuilder", "length", "()I"⟩ : MethodName) jdk_68_method_6_code 1 (some .int) :: ws) ({ frames := 0, cells := 0, slots := 0, locals := 0 } : Room)) (fun a₁ U₁ => a₁ = #[(.ref xb)] ∧ Z.Warmed39 U₁.vm ∧ U₁.heap = h0) (fun _ _ _ _ _ => True) (fun _ U₁ o₁ U₂ => ∃ v₁ L₁, o₁ = .returned v₁ ∧ Q_alen Z xb ct h0 n0 v₁ U₂.heap L₁ ∧ FrameEnd U₁ o₁ U₂ L₁ ({ frames := 0, cells := 0, slots := 0, locals := 0 } : Room).cells ({ frames := 0, cells := 0, slots := 0, locals := 0 } : Room).slots) := by
  refine MetFree.of_bodySF (plainFor_of_name pn_2) hisR ?_
  intro p e s m args below meth c s₁ Bd hml0 hP hK
  obtain ⟨rfl, hZ, hh⟩ := hP
  have hx := Bd.exec
  have hby := Bd.bytes
  have hml : c.maxLocals = 1 := hml0
  have hown : s.vm.findClass "java/lang/AbstractStringBuilder" = some m.cls := findClass_of_methodNamed Bd.named
  have hnm := (name_of_methodNamed Bd.named Bd.method).1
  have X0 : Stand p l e ({ frames := 0, cells := 0, slots := 0, locals := 0 } : Room) s m #[(.ref xb)] below meth c s₁ [] 0 0 := Stand.of_body Bd
  have e0 : s₁.heap = h0 := by rw [← hh, Bd.state]; rfl
  have N0 := Fr.nil n0
  have pre0 : ∀ t, Steps p.tables e below (s₁.setTop (mkF m 0 #[.val (.ref xb)] [])) t → Steps p.tables e below (s₁.setTop (entryFrame m #[(.ref xb)] 1)) t := fun t k => castTop (ef_1 m xb) k
  obtain ⟨T301, X301, e301, st301⟩ := getF X0 hx hZ hown (host := "") (Or.inl (hw _ (List.mem_of_getElem? (i := 149) rfl))) Via.refl e0 q0 (g := (mkF m 1 #[.val (.ref xb)] [(.ref xb)])) rfl rfl (hb hby d_jdk_68_method_6_code_1)
  obtain ⟨fs, hr, hrun, hended, hW, hsame⟩ := X301.leave (v := some (.int ct)) (fun h => by rw [Bd.returns] at h; cases h)
  refine ⟨_, _, pre0 _ ?_, hrun, hended, _, _, rfl, ?_, ⟨_, rfl⟩, hW, hsame.mono (by decide) (by decide)⟩
  · refine XS.aloadN X0.here hx rfl (hb hby d_jdk_68_method_6_code_0) rfl rfl ?_
    show Steps p.tables e below (s₁.setTop (mkF m 1 #[.val (.ref xb)] [(.ref xb)])) _
    refine st301 _ ?_
    show Steps p.tables e below (T301.setTop (mkF m 4 #[.val (.ref xb)] [(.int ct)])) _
    exact retI X301 hx Bd.returns (hb hby d_jdk_68_method_6_code_4) hr
  · show Q_alen Z xb ct h0 n0 _ T301.heap _
    rw [e301]
    exact ⟨rfl, N0, rfl⟩
theorem d_jdk_67_method_93_code_0 : decode jdk_67_method_93_code 0 = .ok (.aload_n 0, 1) := by decide +kernel
theorem d_jdk_67_method_93_code_1 : decode jdk_67_method_93_code 1 = .ok (.invokespecial 343, 3) := by decide +kernel
theorem pd_0 : parseMethodDescriptor "()I" = some ⟨[], some .int⟩ := by decide +kernel
theorem d_jdk_67_method_93_code_4 : decode jdk_67_method_93_code 4 = .ok (.ireturn, 1) := by decide +kernel
theorem pn_3 : plainName "java/lang/StringBuilder" = true := by first | (simp [plainName, overriddenIn]; done) | decide +kernel
def Q_blen (Z : State) (xb : Addr) (ct : Int32) (h0 : Heap) (n0 : Nat) (v : Option Value) (h : Heap) (L : List Loc) : Prop := (v = some (.int ct)) ∧ (Fr n0 L) ∧ (h = h0)
set_option maxRecDepth 65536 in
set_option maxHeartbeats 40000000 in
theorem rm_blen (l : Launch) (Z : State) (a0 : Array Value) (hw : ∀ d ∈ tables_1, d.before a0 Z = true) (ws : List Jvm.Cond) (xb : Addr) (ct : Int32) (h0 : Heap) (n0 : Nat) (Z0 : n0 ≤ h0.size) (q0 : Exa Z h0 xb "java/lang/StringBuilder") (q1 : Fld Z h0 xb "java/lang/AbstractStringBuilder" "count" "I" (.int ct)) :
    MetFree l (⟨"java/lang/StringBuilder", "length", "()I"⟩ : MethodName) (head1 (Jvm.Cond.code (⟨"java/lang/StringBuilder", "length", "()I"⟩ : MethodName) jdk_67_method_93_code 1 (some .int) :: ws) ({ frames := 1, cells := 0, slots := 0, locals := 12 } : Room)) (fun a₁ U₁ => a₁ = #[(.ref xb)] ∧ Z.Warmed39 U₁.vm ∧ U₁.heap = h0) (fun _ _ _ _ _ => True) (fun _ U₁ o₁ U₂ => ∃ v₁ L₁, o₁ = .returned v₁ ∧ Q_blen Z xb ct h0 n0 v₁ U₂.heap L₁ ∧ FrameEnd U₁ o₁ U₂ L₁ ({ frames := 1, cells := 0, slots := 0, locals := 12 } : Room).cells ({ frames := 1, cells := 0, slots := 0, locals := 12 } : Room).slots) := by
  refine MetFree.of_bodySF (plainFor_of_name pn_3) hisR ?_
  intro p e s m args below meth c s₁ Bd hml0 hP hK
  obtain ⟨rfl, hZ, hh⟩ := hP
  have hx := Bd.exec
  have hby := Bd.bytes
  have hml : c.maxLocals = 1 := hml0
  have hown : s.vm.findClass "java/lang/StringBuilder" = some m.cls := findClass_of_methodNamed Bd.named
  have hnm := (name_of_methodNamed Bd.named Bd.method).1
  have X0 : Stand p l e ({ frames := 1, cells := 0, slots := 0, locals := 12 } : Room) s m #[(.ref xb)] below meth c s₁ [] 0 0 := Stand.of_body Bd
  have e0 : s₁.heap = h0 := by rw [← hh, Bd.state]; rfl
  have N0 := Fr.nil n0
  have pre0 : ∀ t, Steps p.tables e below (s₁.setTop (mkF m 0 #[.val (.ref xb)] [])) t → Steps p.tables e below (s₁.setTop (entryFrame m #[(.ref xb)] 1)) t := fun t k => castTop (ef_1 m xb) k
  obtain ⟨_, _, ⟨T301, L301, k301, n301⟩, -, X301, ⟨Lc301, hQ301, l301, y301, z301⟩, st301⟩ := superBack X0 hx hZ (K := "java/lang/StringBuilder") (y := (⟨"java/lang/AbstractStringBuilder", "length", "()I"⟩ : MethodName)) hown (hw _ (List.mem_of_getElem? (i := 216) rfl)) (own_same (z := (⟨"java/lang/AbstractStringBuilder", "ensureCapacityInternal", "(I)V"⟩ : MethodName)) (by decide) rfl (hw _ (List.mem_of_getElem? (i := 154) rfl)) (hw _ (List.mem_of_getElem? (i := 212) rfl))) (hw _ (List.mem_of_getElem? (i := 212) rfl)) (hw _ (List.mem_of_getElem? (i := 145) rfl)) (by decide) (backOf (W := 0) (rm_alen l Z a0 hw [] xb ct h0 n0 Z0 q1) hZ (hw _ (List.mem_of_getElem? (i := 217) rfl)) (hw _ (List.mem_of_getElem? (i := 130) rfl)) (by decide) (by decide)) e0 (Ins.self q0) (g := (mkF m 1 #[.val (.ref xb)] [(.ref xb)])) rfl (by rw [hml]; rfl) (hw _ (List.mem_of_getElem? (i := 217) rfl)) (argsL := []) (rest := []) (lenOf pd_0 rfl) rfl (by show 2 * 0 + _ ≤ _; exact Nat.le_of_eq rfl) (hb hby d_jdk_67_method_93_code_1) (fun _ _ => ⟨rfl, e0, (by decide : 0 + 0 ≤ _), (by decide : 0 + 0 ≤ _)⟩)
  dsimp only [Pt.U, Pt.locs, Pt.cells, Pt.slots] at X301 l301 y301 z301 st301 hQ301
  subst l301 y301 z301
  obtain ⟨rfl, Nq301, e301⟩ := hQ301
  have N301 := Fr.app N0 Nq301
  obtain ⟨fs, hr, hrun, hended, hW, hsame⟩ := X301.leave (v := some (.int ct)) (fun h => by rw [Bd.returns] at h; cases h)
  refine ⟨_, _, pre0 _ ?_, hrun, hended, _, _, rfl, ?_, ⟨_, rfl⟩, hW, hsame.mono (by decide) (by decide)⟩
  · refine XS.aloadN X0.here hx rfl (hb hby d_jdk_67_method_93_code_0) rfl rfl ?_
    show Steps p.tables e below (s₁.setTop (mkF m 1 #[.val (.ref xb)] [(.ref xb)])) _
    refine st301.trans ?_
    show Steps p.tables e below (T301.setTop (mkF m 4 #[.val (.ref xb)] [(.int ct)])) _
    exact retI X301 hx Bd.returns (hb hby d_jdk_67_method_93_code_4) hr
  · show Q_blen Z xb ct h0 n0 _ T301.heap _
    rw [e301]
    exact ⟨rfl, N301, rfl⟩
theorem d_jdk_68_method_2_code_0 : decode jdk_68_method_2_code 0 = .ok (.aload_n 0, 1) := by decide +kernel
theorem d_jdk_68_method_2_code_1 : decode jdk_68_method_2_code 1 = .ok (.invokespecial 3, 3) := by decide +kernel
theorem d_jdk_68_method_2_code_4 : decode jdk_68_method_2_code 4 = .ok (.getstatic 18, 3) := by decide +kernel
theorem d_jdk_68_method_2_code_7 : decode jdk_68_method_2_code 7 = .ok (.ifCond .eq 18, 3) := by decide +kernel
theorem d_jdk_68_method_2_code_10 : decode jdk_68_method_2_code 10 = .ok (.aload_n 0, 1) := by decide +kernel
theorem d_jdk_68_method_2_code_11 : decode jdk_68_method_2_code 11 = .ok (.iload_n 1, 1) := by decide +kernel
theorem d_jdk_68_method_2_code_12 : decode jdk_68_method_2_code 12 = .ok (.newarray .byte, 2) := by decide +kernel
theorem d_jdk_68_method_2_code_14 : decode jdk_68_method_2_code 14 = .ok (.putfield 15, 3) := by decide +kernel
theorem d_jdk_68_method_2_code_17 : decode jdk_68_method_2_code 17 = .ok (.aload_n 0, 1) := by decide +kernel
theorem d_jdk_68_method_2_code_18 : decode jdk_68_method_2_code 18 = .ok (.iconst 0, 1) := by decide +kernel
theorem d_jdk_68_method_2_code_19 : decode jdk_68_method_2_code 19 = .ok (.putfield 22, 3) := by decide +kernel
theorem d_jdk_68_method_2_code_22 : decode jdk_68_method_2_code 22 = .ok (.goto 16, 3) := by decide +kernel
theorem d_jdk_68_method_2_code_38 : decode jdk_68_method_2_code 38 = .ok (.return_, 1) := by decide +kernel
theorem ef_2 (m : MethodId) (x0 : Addr) (x1 : Int32) : entryFrame m #[(.ref x0), (.int x1)] 2 = mkF m 0 #[.val (.ref x0), .val (.int x1)] [] := by first | (simp [entryFrame, mkF, argsToLocals, Value.category]; done) | rfl
def Q_asbI (Z : State) (xb : Addr) (G : Int32) (h0 : Heap) (n0 : Nat) (v : Option Value) (h : Heap) (L : List Loc) : Prop := ∃ (va : Addr) (ka : ClassId), (v = none) ∧ (Fr n0 L) ∧ (Keep h0 h ([xb] : List Addr)) ∧ (Fld Z h xb "java/lang/AbstractStringBuilder" "value" "[B" (.ref va)) ∧ (Fld Z h xb "java/lang/AbstractStringBuilder" "coder" "B" (.int (0 : Int32))) ∧ (Fld Z h xb "java/lang/AbstractStringBuilder" "count" "I" (.int (0 : Int32))) ∧ (h0.size ≤ va) ∧ (Arv Z h va ka .byte (16 : Int32) (own_bv []) (.int (0 : Int32)))
set_option maxRecDepth 65536 in
set_option maxHeartbeats 40000000 in
theorem rm_asbI (l : Launch) (Z : State) (a0 : Array Value) (hw : ∀ d ∈ tables_1, d.before a0 Z = true) (ws : List Jvm.Cond) (xb : Addr) (G : Int32) (h0 : Heap) (n0 : Nat) (Z0 : n0 ≤ h0.size) (q0 : Sta Z Z.heap "java/lang/String" "COMPACT_STRINGS" "Z" (.int G)) (hCS : ¬ (G = (0 : Int32))) (q2 : Old Z n0 h0) (q3 : Exa Z h0 xb "java/lang/StringBuilder") (q4 : Fld Z h0 xb "java/lang/AbstractStringBuilder" "value" "[B" .null) (q5 : Fld Z h0 xb "java/lang/AbstractStringBuilder" "coder" "B" (.int (0 : Int32))) (q6 : Fld Z h0 xb "java/lang/AbstractStringBuilder" "count" "I" (.int (0 : Int32))) (q7 : n0 ≤ xb) :
    MetFree l (⟨"java/lang/AbstractStringBuilder", "<init>", "(I)V"⟩ : MethodName) (head1 (Jvm.Cond.code (⟨"java/lang/AbstractStringBuilder", "<init>", "(I)V"⟩ : MethodName) jdk_68_method_2_code 2 none :: ws) ({ frames := 1, cells := 1, slots := 16, locals := 12 } : Room)) (fun a₁ U₁ => a₁ = #[(.ref xb), (.int (16 : Int32))] ∧ Z.Warmed39 U₁.vm ∧ U₁.heap = h0) (fun _ _ _ _ _ => True) (fun _ U₁ o₁ U₂ => ∃ v₁ L₁, o₁ = .returned v₁ ∧ Q_asbI Z xb G h0 n0 v₁ U₂.heap L₁ ∧ FrameEnd U₁ o₁ U₂ L₁ ({ frames := 1, cells := 1, slots := 16, locals := 12 } : Room).cells ({ frames := 1, cells := 1, slots := 16, locals := 12 } : Room).slots) := by
  refine MetFree.of_bodySF (plainFor_of_name pn_2) hisR ?_
  intro p e s m args below meth c s₁ Bd hml0 hP hK
  obtain ⟨rfl, hZ, hh⟩ := hP
  have hx := Bd.exec
  have hby := Bd.bytes
  have hml : c.maxLocals = 2 := hml0
  have hown : s.vm.findClass "java/lang/AbstractStringBuilder" = some m.cls := findClass_of_methodNamed Bd.named
  have hnm := (name_of_methodNamed Bd.named Bd.method).1
  have X0 : Stand p l e ({ frames := 1, cells := 1, slots := 16, locals := 12 } : Room) s m #[(.ref xb), (.int (16 : Int32))] below meth c s₁ [] 0 0 := Stand.of_body Bd
  have e0 : s₁.heap = h0 := by rw [← hh, Bd.state]; rfl
  have N0 := Fr.nil n0
  have pre0 : ∀ t, Steps p.tables e below (s₁.setTop (mkF m 0 #[.val (.ref xb), .val (.int (16 : Int32))] [])) t → Steps p.tables e below (s₁.setTop (entryFrame m #[(.ref xb), (.int (16 : Int32))] 2)) t := fun t k => castTop (ef_2 m xb (16 : Int32)) k
  obtain ⟨T301, X301, e301, st301⟩ := initO X0 hx hZ hown (hw _ (List.mem_of_getElem? (i := 132) rfl)) (hw _ (List.mem_of_getElem? (i := 19) rfl)) (hw _ (List.mem_of_getElem? (i := 20) rfl)) e0 (g := (mkF m 1 #[.val (.ref xb), .val (.int (16 : Int32))] [(.ref xb)])) rfl (by rw [hml]; rfl) rfl (hb hby d_jdk_68_method_2_code_1) (by decide) (W := 0) (by show 2 * 0 + _ ≤ _; exact Nat.le_of_eq rfl) (by decide)
  obtain ⟨T302, X302, e302, st302⟩ := getS2 X301 hx hZ hown (host := "") (Or.inl (hw _ (List.mem_of_getElem? (i := 133) rfl))) Via.refl e301 (q0.ext q2.2) (g := (mkF m 4 #[.val (.ref xb), .val (.int (16 : Int32))] [])) rfl (hb hby d_jdk_68_method_2_code_4)
  obtain ⟨T303, h303, ky303, X303, e303, E303, A303, st303⟩ := newP X302 hx hZ (hw _ (List.mem_of_getElem? (i := 22) rfl)) e302 (g := (mkF m 12 #[.val (.ref xb), .val (.int (16 : Int32))] [(.int (16 : Int32)), (.ref xb)])) rfl (hb hby d_jdk_68_method_2_code_12) rfl ((by decide) : ¬ ((16 : Int32) < (0 : Int32))) (cap := 16) ((by decide) : (16 : Int32).toNatClampNeg ≤ 16) (by decide) (by decide) (by decide)
  obtain ⟨b303, g303⟩ : ∃ z, z = h0.size := ⟨_, rfl⟩
  rw [← g303] at A303 st303
  have V303 : Arv Z h303 b303 ky303 .byte (16 : Int32) [] (.int (0 : Int32)) := Arv.new A303 (by decide)
  have U303 : Arv Z h303 b303 ky303 .byte (16 : Int32) [(.int (0 : Int32)), (.int (0 : Int32)), (.int (0 : Int32)), (.int (0 : Int32)), (.int (0 : Int32)), (.int (0 : Int32)), (.int (0 : Int32)), (.int (0 : Int32)), (.int (0 : Int32)), (.int (0 : Int32)), (.int (0 : Int32)), (.int (0 : Int32)), (.int (0 : Int32)), (.int (0 : Int32)), (.int (0 : Int32)), (.int (0 : Int32))] (.int (0 : Int32)) := V303.pad (pad_rep [] (.int (0 : Int32)) 16)
  have c304 : Fld Z h303 xb "java/lang/AbstractStringBuilder" "value" "[B" .null := (q4.ext E303)
  have c305 : Exa Z h303 xb "java/lang/StringBuilder" := (q3.ext E303)
  obtain ⟨T306, h306, X306, e306, W306, st306⟩ := putF X303 hx hZ hown (host := "") (Or.inl (hw _ (List.mem_of_getElem? (i := 134) rfl))) Via.refl e303 c304 c305 (Or.inl (hw _ (List.mem_of_getElem? (i := 135) rfl))) (hw _ (List.mem_of_getElem? (i := 121) rfl)) (ty := (.array .byte)) (by decide) rfl rfl (g := (mkF m 14 #[.val (.ref xb), .val (.int (16 : Int32))] [(.ref b303), (.ref xb)])) rfl rfl (hb hby d_jdk_68_method_2_code_14)
  have N306 := Fr.snoc X306 N0 q7
  have F306 : Fld Z h306 xb "java/lang/AbstractStringBuilder" "value" "[B" (.ref b303) := c304.same W306
  have c307 : Fld Z h306 xb "java/lang/AbstractStringBuilder" "coder" "B" (.int (0 : Int32)) := ((q5.ext E303).other W306 (Or.inr (slot_ne (Or.inl (hw _ (List.mem_of_getElem? (i := 137) rfl))) (Or.inl (hw _ (List.mem_of_getElem? (i := 135) rfl))) (by decide) (t := .byte) (t' := (.array .byte)) (by decide) (by decide))))
  have c308 : Exa Z h306 xb "java/lang/StringBuilder" := (c305.wr W306)
  obtain ⟨T309, h309, X309, e309, W309, st309⟩ := putFN X306 hx hZ hown (hw _ (List.mem_of_getElem? (i := 136) rfl)) Via.refl e306 c307 c308 (Or.inl (hw _ (List.mem_of_getElem? (i := 137) rfl))) (hw _ (List.mem_of_getElem? (i := 121) rfl)) (ty := .byte) (v' := (.int (0 : Int32))) (by decide) rfl rfl (g := (mkF m 19 #[.val (.ref xb), .val (.int (16 : Int32))] [(.int (0 : Int32)), (.ref xb)])) rfl rfl (hb hby d_jdk_68_method_2_code_19)
  have N309 := Fr.snoc X309 N306 q7
  have F309 : Fld Z h309 xb "java/lang/AbstractStringBuilder" "coder" "B" (.int (0 : Int32)) := c307.same W309
  have c310 : Fld Z h309 xb "java/lang/AbstractStringBuilder" "value" "[B" (.ref b303) := (F306.other W309 (Or.inr (slot_ne (Or.inl (hw _ (List.mem_of_getElem? (i := 135) rfl))) (Or.inl (hw _ (List.mem_of_getElem? (i := 137) rfl))) (by decide) (t := (.array .byte)) (t' := .byte) (by decide) (by decide))))
  have ne311 : xb ≠ b303 := Nat.ne_of_lt (Nat.lt_of_lt_of_le q6.lt (Nat.le_of_eq g303.symm))
  have c312 : Arv Z h309 b303 ky303 .byte (16 : Int32) [(.int (0 : Int32)), (.int (0 : Int32)), (.int (0 : Int32)), (.int (0 : Int32)), (.int (0 : Int32)), (.int (0 : Int32)), (.int (0 : Int32)), (.int (0 : Int32)), (.int (0 : Int32)), (.int (0 : Int32)), (.int (0 : Int32)), (.int (0 : Int32)), (.int (0 : Int32)), (.int (0 : Int32)), (.int (0 : Int32)), (.int (0 : Int32))] (.int (0 : Int32)) := ((U303.other W306 (Ne.symm ne311)).other W309 (Ne.symm ne311))
  have c313 : Fld Z h309 xb "java/lang/AbstractStringBuilder" "count" "I" (.int (0 : Int32)) := (((q6.ext E303).other W306 (Or.inr (slot_ne (Or.inl (hw _ (List.mem_of_getElem? (i := 150) rfl))) (Or.inl (hw _ (List.mem_of_getElem? (i := 135) rfl))) (by decide) (t := .int) (t' := (.array .byte)) (by decide) (by decide)))).other W309 (Or.inr (slot_ne (Or.inl (hw _ (List.mem_of_getElem? (i := 150) rfl))) (Or.inl (hw _ (List.mem_of_getElem? (i := 137) rfl))) (by decide) (t := .int) (t' := .byte) (by decide) (by decide))))
  obtain ⟨fs, hr, hrun, hended, hW, hsame⟩ := X309.leave (v := none) (fun _ => rfl)
  refine ⟨_, _, pre0 _ ?_, hrun, hended, _, _, rfl, ?_, ⟨_, rfl⟩, hW, hsame.mono (by decide) (by decide)⟩
  · refine XS.aloadN X0.here hx rfl (hb hby d_jdk_68_method_2_code_0) rfl rfl ?_
    show Steps p.tables e below (s₁.setTop (mkF m 1 #[.val (.ref xb), .val (.int (16 : Int32))] [(.ref xb)])) _
    refine st301 _ ?_
    show Steps p.tables e below (T301.setTop (mkF m 4 #[.val (.ref xb), .val (.int (16 : Int32))] [])) _
    refine st302 _ ?_
    show Steps p.tables e below (T302.setTop (mkF m 7 #[.val (.ref xb), .val (.int (16 : Int32))] [(.int G)])) _
    refine XS.ifNo X302.here hx rfl (hb hby d_jdk_68_method_2_code_7) rfl ((if0 _ _).trans (feq (hCS : ¬ (G = (0 : Int32)))).1) ?_
    show Steps p.tables e below (T302.setTop (mkF m 10 #[.val (.ref xb), .val (.int (16 : Int32))] [])) _
    refine XS.aloadN X302.here hx rfl (hb hby d_jdk_68_method_2_code_10) rfl rfl ?_
    show Steps p.tables e below (T302.setTop (mkF m 11 #[.val (.ref xb), .val (.int (16 : Int32))] [(.ref xb)])) _
    refine XS.iloadN X302.here hx rfl (hb hby d_jdk_68_method_2_code_11) rfl ?_
    show Steps p.tables e below (T302.setTop (mkF m 12 #[.val (.ref xb), .val (.int (16 : Int32))] [(.int (16 : Int32)), (.ref xb)])) _
    refine st303 _ ?_
    show Steps p.tables e below (T303.setTop (mkF m 14 #[.val (.ref xb), .val (.int (16 : Int32))] [(.ref b303), (.ref xb)])) _
    refine st306 _ ?_
    show Steps p.tables e below (T306.setTop (mkF m 17 #[.val (.ref xb), .val (.int (16 : Int32))] [])) _
    refine XS.aloadN X306.here hx rfl (hb hby d_jdk_68_method_2_code_17) rfl rfl ?_
    show Steps p.tables e below (T306.setTop (mkF m 18 #[.val (.ref xb), .val (.int (16 : Int32))] [(.ref xb)])) _
    refine XS.iconst X306.here hx rfl (hb hby d_jdk_68_method_2_code_18) ?_
    show Steps p.tables e below (T306.setTop (mkF m 19 #[.val (.ref xb), .val (.int (16 : Int32))] [(.int (0 : Int32)), (.ref xb)])) _
    refine st309 _ ?_
    show Steps p.tables e below (T309.setTop (mkF m 22 #[.val (.ref xb), .val (.int (16 : Int32))] [])) _
    refine XS.goto X309.here hx rfl (pc0 := 22) (pc' := 38) rfl (hb hby d_jdk_68_method_2_code_22) (by decide) (by decide) ?_
    show Steps p.tables e below (T309.setTop (mkF m 38 #[.val (.ref xb), .val (.int (16 : Int32))] [])) _
    exact X309.returnOut hx Bd.returns (hb hby d_jdk_68_method_2_code_38) hr
  · show Q_asbI Z xb G h0 n0 _ T309.heap _
    rw [e309]
    exact ⟨b303, ky303, rfl, N309, ((((Keep.refl h0 ([xb] : List Addr)).ext E303).wr W306 (Or.inl (by simp))).wr W309 (Or.inl (by simp))), c310, F309, c313, (Nat.le_trans (Nat.le_refl _) (Nat.le_of_eq g303.symm)), c312⟩
theorem d_jdk_67_method_1_code_0 : decode jdk_67_method_1_code 0 = .ok (.aload_n 0, 1) := by decide +kernel
theorem d_jdk_67_method_1_code_1 : decode jdk_67_method_1_code 1 = .ok (.bipush 16, 2) := by decide +kernel
theorem d_jdk_67_method_1_code_3 : decode jdk_67_method_1_code 3 = .ok (.invokespecial 1, 3) := by decide +kernel
theorem pd_1 : parseMethodDescriptor "(I)V" = some ⟨[.int], none⟩ := by decide +kernel
theorem d_jdk_67_method_1_code_6 : decode jdk_67_method_1_code 6 = .ok (.return_, 1) := by decide +kernel
def Q_sbI (Z : State) (xb : Addr) (G : Int32) (h0 : Heap) (n0 : Nat) (v : Option Value) (h : Heap) (L : List Loc) : Prop := ∃ (va : Addr) (ka : ClassId), (v = none) ∧ (Fr n0 L) ∧ (Keep h0 h ([xb] : List Addr)) ∧ (Fld Z h xb "java/lang/AbstractStringBuilder" "value" "[B" (.ref va)) ∧ (Fld Z h xb "java/lang/AbstractStringBuilder" "coder" "B" (.int (0 : Int32))) ∧ (Fld Z h xb "java/lang/AbstractStringBuilder" "count" "I" (.int (0 : Int32))) ∧ (h0.size ≤ va) ∧ (Arv Z h va ka .byte (16 : Int32) (own_bv []) (.int (0 : Int32)))
set_option maxRecDepth 65536 in
set_option maxHeartbeats 40000000 in
theorem rm_sbI (l : Launch) (Z : State) (a0 : Array Value) (hw : ∀ d ∈ tables_1, d.before a0 Z = true) (ws : List Jvm.Cond) (xb : Addr) (G : Int32) (h0 : Heap) (n0 : Nat) (Z0 : n0 ≤ h0.size) (q0 : Sta Z Z.heap "java/lang/String" "COMPACT_STRINGS" "Z" (.int G)) (hCS : ¬ (G = (0 : Int32))) (q2 : Old Z n0 h0) (q3 : Exa Z h0 xb "java/lang/StringBuilder") (q4 : Fld Z h0 xb "java/lang/AbstractStringBuilder" "value" "[B" .null) (q5 : Fld Z h0 xb "java/lang/AbstractStringBuilder" "coder" "B" (.int (0 : Int32))) (q6 : Fld Z h0 xb "java/lang/AbstractStringBuilder" "count" "I" (.int (0 : Int32))) (q7 : n0 ≤ xb) :
    MetFree l (⟨"java/lang/StringBuilder", "<init>", "()V"⟩ : MethodName) (head1 (Jvm.Cond.code (⟨"java/lang/StringBuilder", "<init>", "()V"⟩ : MethodName) jdk_67_method_1_code 1 none :: ws) ({ frames := 2, cells := 1, slots := 16, locals := 25 } : Room)) (fun a₁ U₁ => a₁ = #[(.ref xb)] ∧ Z.Warmed39 U₁.vm ∧ U₁.heap = h0) (fun _ _ _ _ _ => True) (fun _ U₁ o₁ U₂ => ∃ v₁ L₁, o₁ = .returned v₁ ∧ Q_sbI Z xb G h0 n0 v₁ U₂.heap L₁ ∧ FrameEnd U₁ o₁ U₂ L₁ ({ frames := 2, cells := 1, slots := 16, locals := 25 } : Room).cells ({ frames := 2, cells := 1, slots := 16, locals := 25 } : Room).slots) := by
  refine MetFree.of_bodySF (plainFor_of_name pn_3) hisR ?_
  intro p e s m args below meth c s₁ Bd hml0 hP hK
  obtain ⟨rfl, hZ, hh⟩ := hP
  have hx := Bd.exec
  have hby := Bd.bytes
  have hml : c.maxLocals = 1 := hml0
  have hown : s.vm.findClass "java/lang/StringBuilder" = some m.cls := findClass_of_methodNamed Bd.named
  have hnm := (name_of_methodNamed Bd.named Bd.method).1
  have X0 : Stand p l e ({ frames := 2, cells := 1, slots := 16, locals := 25 } : Room) s m #[(.ref xb)] below meth c s₁ [] 0 0 := Stand.of_body Bd
  have e0 : s₁.heap = h0 := by rw [← hh, Bd.state]; rfl
  have N0 := Fr.nil n0
  have pre0 : ∀ t, Steps p.tables e below (s₁.setTop (mkF m 0 #[.val (.ref xb)] [])) t → Steps p.tables e below (s₁.setTop (entryFrame m #[(.ref xb)] 1)) t := fun t k => castTop (ef_1 m xb) k
  obtain ⟨_, _, ⟨T301, L301, k301, n301⟩, -, X301, ⟨Lc301, hQ301, l301, y301, z301⟩, st301⟩ := X0.specialBack hx (y := (⟨"java/lang/AbstractStringBuilder", "<init>", "(I)V"⟩ : MethodName)) rfl hown (mvT hZ (hw _ (List.mem_of_getElem? (i := 126) rfl))) (mvT hZ (hw _ (List.mem_of_getElem? (i := 127) rfl))) (mvT hZ (hw _ (List.mem_of_getElem? (i := 131) rfl))) (by decide) (backOf (W := 0) (rm_asbI l Z a0 hw [] xb G h0 n0 Z0 q0 hCS q2 q3 q4 q5 q6 q7) hZ (hw _ (List.mem_of_getElem? (i := 131) rfl)) (hw _ (List.mem_of_getElem? (i := 130) rfl)) (by decide) (by decide)) (g := (mkF m 3 #[.val (.ref xb)] [(.int (16 : Int32)), (.ref xb)])) rfl (by rw [hml]; rfl) (Steps.refl _) (a := xb) (argsL := [(.int (16 : Int32))]) (rest := []) (lenOf pd_1 rfl) rfl (by show 2 * 0 + _ ≤ _; exact Nat.le_of_eq rfl) (hb hby d_jdk_67_method_1_code_3) (fun _ _ => ⟨rfl, e0, (by decide : 0 + 1 ≤ _), (by decide : 0 + 16 ≤ _)⟩)
  dsimp only [Pt.U, Pt.locs, Pt.cells, Pt.slots] at X301 l301 y301 z301 st301 hQ301
  subst l301 y301 z301
  obtain ⟨va_301, ka_301, rfl, Nq301, K301, f301_0, f301_1, f301_2, f301_3, f301_4⟩ := hQ301
  have N301 := Fr.app N0 Nq301
  obtain ⟨fs, hr, hrun, hended, hW, hsame⟩ := X301.leave (v := none) (fun _ => rfl)
  refine ⟨_, _, pre0 _ ?_, hrun, hended, _, _, rfl, ?_, ⟨_, rfl⟩, hW, hsame.mono (by decide) (by decide)⟩
  · refine XS.aloadN X0.here hx rfl (hb hby d_jdk_67_method_1_code_0) rfl rfl ?_
    show Steps p.tables e below (s₁.setTop (mkF m 1 #[.val (.ref xb)] [(.ref xb)])) _
    refine XS.bipush X0.here hx rfl (hb hby d_jdk_67_method_1_code_1) ?_
    show Steps p.tables e below (s₁.setTop (mkF m 3 #[.val (.ref xb)] [(.int (16 : Int32)), (.ref xb)])) _
    refine st301.trans ?_
    show Steps p.tables e below (T301.setTop (mkF m 6 #[.val (.ref xb)] [])) _
    exact X301.returnOut hx Bd.returns (hb hby d_jdk_67_method_1_code_6) hr
  · show Q_sbI Z xb G h0 n0 _ T301.heap _
    exact ⟨va_301, ka_301, rfl, N301, ((Keep.refl h0 ([xb] : List Addr)).trans K301 (allS (Or.inl (by simp)) all0)), f301_0, f301_1, f301_2, (Nat.le_trans (Nat.le_refl _) f301_3), f301_4⟩
theorem d_jdk_68_method_9_code_0 : decode jdk_68_method_9_code 0 = .ok (.aload_n 0, 1) := by decide +kernel
theorem d_jdk_68_method_9_code_1 : decode jdk_68_method_9_code 1 = .ok (.getfield 15, 3) := by decide +kernel
theorem d_jdk_68_method_9_code_4 : decode jdk_68_method_9_code 4 = .ok (.arraylength, 1) := by decide +kernel
theorem d_jdk_68_method_9_code_5 : decode jdk_68_method_9_code 5 = .ok (.aload_n 0, 1) := by decide +kernel
theorem d_jdk_68_method_9_code_6 : decode jdk_68_method_9_code 6 = .ok (.getfield 22, 3) := by decide +kernel
theorem d_jdk_68_method_9_code_9 : decode jdk_68_method_9_code 9 = .ok (.ishr, 1) := by decide +kernel
theorem d_jdk_68_method_9_code_10 : decode jdk_68_method_9_code 10 = .ok (.istore_n 2, 1) := by decide +kernel
theorem d_jdk_68_method_9_code_11 : decode jdk_68_method_9_code 11 = .ok (.iload_n 1, 1) := by decide +kernel
theorem d_jdk_68_method_9_code_12 : decode jdk_68_method_9_code 12 = .ok (.iload_n 2, 1) := by decide +kernel
theorem d_jdk_68_method_9_code_13 : decode jdk_68_method_9_code 13 = .ok (.isub, 1) := by decide +kernel
theorem d_jdk_68_method_9_code_14 : decode jdk_68_method_9_code 14 = .ok (.ifCond .le 24, 3) := by decide +kernel
theorem d_jdk_68_method_9_code_38 : decode jdk_68_method_9_code 38 = .ok (.return_, 1) := by decide +kernel
theorem ef_3 (m : MethodId) (x0 : Addr) (x1 : Int32) : entryFrame m #[(.ref x0), (.int x1)] 3 = mkF m 0 #[.val (.ref x0), .val (.int x1), .unset] [] := by first | (simp [entryFrame, mkF, argsToLocals, Value.category]; done) | rfl
def Q_ensC (Z : State) (xb : Addr) (mn : Int32) (va : Addr) (ka : ClassId) (cs : List Int32) (h0 : Heap) (n0 : Nat) (v : Option Value) (h : Heap) (L : List Loc) : Prop := (v = none) ∧ (Fr n0 L) ∧ (h = h0)
set_option maxRecDepth 65536 in
set_option maxHeartbeats 40000000 in
theorem rm_ensC (l : Launch) (Z : State) (a0 : Array Value) (hw : ∀ d ∈ tables_1, d.before a0 Z = true) (ws : List Jvm.Cond) (xb : Addr) (mn : Int32) (va : Addr) (ka : ClassId) (cs : List Int32) (h0 : Heap) (n0 : Nat) (Z0 : n0 ≤ h0.size) (q0 : Fld Z h0 xb "java/lang/AbstractStringBuilder" "value" "[B" (.ref va)) (q1 : Fld Z h0 xb "java/lang/AbstractStringBuilder" "coder" "B" (.int (0 : Int32))) (q2 : Arv Z h0 va ka .byte (16 : Int32) (own_bv cs) (.int (0 : Int32))) (hfit : ¬ ((0 : Int32) < mn - (16 : Int32))) :
    MetFree l (⟨"java/lang/AbstractStringBuilder", "ensureCapacityInternal", "(I)V"⟩ : MethodName) (head1 (Jvm.Cond.code (⟨"java/lang/AbstractStringBuilder", "ensureCapacityInternal", "(I)V"⟩ : MethodName) jdk_68_method_9_code 3 none :: ws) ({ frames := 0, cells := 0, slots := 0, locals := 0 } : Room)) (fun a₁ U₁ => a₁ = #[(.ref xb), (.int mn)] ∧ Z.Warmed39 U₁.vm ∧ U₁.heap = h0) (fun _ _ _ _ _ => True) (fun _ U₁ o₁ U₂ => ∃ v₁ L₁, o₁ = .returned v₁ ∧ Q_ensC Z xb mn va ka cs h0 n0 v₁ U₂.heap L₁ ∧ FrameEnd U₁ o₁ U₂ L₁ ({ frames := 0, cells := 0, slots := 0, locals := 0 } : Room).cells ({ frames := 0, cells := 0, slots := 0, locals := 0 } : Room).slots) := by
  refine MetFree.of_bodySF (plainFor_of_name pn_2) hisR ?_
  intro p e s m args below meth c s₁ Bd hml0 hP hK
  obtain ⟨rfl, hZ, hh⟩ := hP
  have hx := Bd.exec
  have hby := Bd.bytes
  have hml : c.maxLocals = 3 := hml0
  have hown : s.vm.findClass "java/lang/AbstractStringBuilder" = some m.cls := findClass_of_methodNamed Bd.named
  have hnm := (name_of_methodNamed Bd.named Bd.method).1
  have X0 : Stand p l e ({ frames := 0, cells := 0, slots := 0, locals := 0 } : Room) s m #[(.ref xb), (.int mn)] below meth c s₁ [] 0 0 := Stand.of_body Bd
  have e0 : s₁.heap = h0 := by rw [← hh, Bd.state]; rfl
  have N0 := Fr.nil n0
  have pre0 : ∀ t, Steps p.tables e below (s₁.setTop (mkF m 0 #[.val (.ref xb), .val (.int mn), .unset] [])) t → Steps p.tables e below (s₁.setTop (entryFrame m #[(.ref xb), (.int mn)] 3)) t := fun t k => castTop (ef_3 m xb mn) k
  obtain ⟨T301, X301, e301, st301⟩ := getF X0 hx hZ hown (host := "") (Or.inl (hw _ (List.mem_of_getElem? (i := 134) rfl))) Via.refl e0 q0 (g := (mkF m 1 #[.val (.ref xb), .val (.int mn), .unset] [(.ref xb)])) rfl rfl (hb hby d_jdk_68_method_9_code_1)
  obtain ⟨cl302, Ar302, -, S302, M302, -, -⟩ := id q2
  obtain ⟨T303, X303, e303, st303⟩ := getF X301 hx hZ hown (host := "") (Or.inl (hw _ (List.mem_of_getElem? (i := 136) rfl))) Via.refl e301 q1 (g := (mkF m 6 #[.val (.ref xb), .val (.int mn), .unset] [(.ref xb), (.int (16 : Int32))])) rfl rfl (hb hby d_jdk_68_method_9_code_6)
  obtain ⟨fs, hr, hrun, hended, hW, hsame⟩ := X303.leave (v := none) (fun _ => rfl)
  refine ⟨_, _, pre0 _ ?_, hrun, hended, _, _, rfl, ?_, ⟨_, rfl⟩, hW, hsame.mono (by decide) (by decide)⟩
  · refine XS.aloadN X0.here hx rfl (hb hby d_jdk_68_method_9_code_0) rfl rfl ?_
    show Steps p.tables e below (s₁.setTop (mkF m 1 #[.val (.ref xb), .val (.int mn), .unset] [(.ref xb)])) _
    refine st301 _ ?_
    show Steps p.tables e below (T301.setTop (mkF m 4 #[.val (.ref xb), .val (.int mn), .unset] [(.ref va)])) _
    refine X301.arraylength hx (by rw [e301]; exact Ar302.1) (State.isArrayOf_alike hZ.alike Ar302.2.1) (g := (mkF m 4 #[.val (.ref xb), .val (.int mn), .unset] [(.ref va)])) rfl rfl (hb hby d_jdk_68_method_9_code_4) _ ?_
    rw [len_of S302 M302]
    show Steps p.tables e below (T301.setTop (mkF m 5 #[.val (.ref xb), .val (.int mn), .unset] [(.int (16 : Int32))])) _
    refine XS.aloadN X301.here hx rfl (hb hby d_jdk_68_method_9_code_5) rfl rfl ?_
    show Steps p.tables e below (T301.setTop (mkF m 6 #[.val (.ref xb), .val (.int mn), .unset] [(.ref xb), (.int (16 : Int32))])) _
    refine st303 _ ?_
    show Steps p.tables e below (T303.setTop (mkF m 9 #[.val (.ref xb), .val (.int mn), .unset] [(.int (0 : Int32)), (.int (16 : Int32))])) _
    refine XS.ishr X303.here hx rfl (hb hby d_jdk_68_method_9_code_9) rfl ?_
    show Steps p.tables e below (T303.setTop (mkF m 10 #[.val (.ref xb), .val (.int mn), .unset] [(.int (16 : Int32))])) _
    refine XS.istoreN X303.here hx rfl (hb hby d_jdk_68_method_9_code_10) rfl (l' := #[.val (.ref xb), .val (.int mn), .val (.int (16 : Int32))]) rfl ?_
    show Steps p.tables e below (T303.setTop (mkF m 11 #[.val (.ref xb), .val (.int mn), .val (.int (16 : Int32))] [])) _
    refine XS.iloadN X303.here hx rfl (hb hby d_jdk_68_method_9_code_11) rfl ?_
    show Steps p.tables e below (T303.setTop (mkF m 12 #[.val (.ref xb), .val (.int mn), .val (.int (16 : Int32))] [(.int mn)])) _
    refine XS.iloadN X303.here hx rfl (hb hby d_jdk_68_method_9_code_12) rfl ?_
    show Steps p.tables e below (T303.setTop (mkF m 13 #[.val (.ref xb), .val (.int mn), .val (.int (16 : Int32))] [(.int (16 : Int32)), (.int mn)])) _
    refine XS.isub X303.here hx rfl (hb hby d_jdk_68_method_9_code_13) rfl ?_
    show Steps p.tables e below (T303.setTop (mkF m 14 #[.val (.ref xb), .val (.int mn), .val (.int (16 : Int32))] [(.int (mn - (16 : Int32)))])) _
    refine XS.ifYes X303.here hx rfl (pc0 := 14) (pc' := 38) rfl (hb hby d_jdk_68_method_9_code_14) rfl ((if0 _ _).trans (flt (hfit : ¬ ((0 : Int32) < (mn - (16 : Int32))))).2.2.2) (by decide) (by decide) ?_
    show Steps p.tables e below (T303.setTop (mkF m 38 #[.val (.ref xb), .val (.int mn), .val (.int (16 : Int32))] [])) _
    exact X303.returnOut hx Bd.returns (hb hby d_jdk_68_method_9_code_38) hr
  · show Q_ensC Z xb mn va ka cs h0 n0 _ T303.heap _
    rw [e303]
    exact ⟨rfl, N0, rfl⟩
theorem d_jdk_42_method_147_code_0 : decode jdk_42_method_147_code 0 = .ok (.aload_n 0, 1) := by decide +kernel
theorem d_jdk_42_method_147_code_1 : decode jdk_42_method_147_code 1 = .ok (.invokevirtual 335, 3) := by decide +kernel
theorem pd_2 : parseMethodDescriptor "()B" = some ⟨[], some .byte⟩ := by decide +kernel
theorem d_jdk_42_method_147_code_4 : decode jdk_42_method_147_code 4 = .ok (.iload_n 3, 1) := by decide +kernel
theorem d_jdk_42_method_147_code_5 : decode jdk_42_method_147_code 5 = .ok (.if_icmp .ne 23, 3) := by decide +kernel
theorem d_jdk_42_method_147_code_8 : decode jdk_42_method_147_code 8 = .ok (.aload_n 0, 1) := by decide +kernel
theorem d_jdk_42_method_147_code_9 : decode jdk_42_method_147_code 9 = .ok (.getfield 9, 3) := by decide +kernel
theorem d_jdk_42_method_147_code_12 : decode jdk_42_method_147_code 12 = .ok (.iconst 0, 1) := by decide +kernel
theorem d_jdk_42_method_147_code_13 : decode jdk_42_method_147_code 13 = .ok (.aload_n 1, 1) := by decide +kernel
theorem d_jdk_42_method_147_code_14 : decode jdk_42_method_147_code 14 = .ok (.iload_n 2, 1) := by decide +kernel
theorem d_jdk_42_method_147_code_15 : decode jdk_42_method_147_code 15 = .ok (.iload_n 3, 1) := by decide +kernel
theorem d_jdk_42_method_147_code_16 : decode jdk_42_method_147_code 16 = .ok (.ishl, 1) := by decide +kernel
theorem d_jdk_42_method_147_code_17 : decode jdk_42_method_147_code 17 = .ok (.aload_n 0, 1) := by decide +kernel
theorem d_jdk_42_method_147_code_18 : decode jdk_42_method_147_code 18 = .ok (.getfield 9, 3) := by decide +kernel
theorem d_jdk_42_method_147_code_21 : decode jdk_42_method_147_code 21 = .ok (.arraylength, 1) := by decide +kernel
theorem d_jdk_42_method_147_code_22 : decode jdk_42_method_147_code 22 = .ok (.invokestatic 212, 3) := by decide +kernel
theorem d_jdk_42_method_147_code_25 : decode jdk_42_method_147_code 25 = .ok (.goto 18, 3) := by decide +kernel
theorem d_jdk_42_method_147_code_43 : decode jdk_42_method_147_code 43 = .ok (.return_, 1) := by decide +kernel
theorem ef_4 (m : MethodId) (x0 : Addr) (x1 : Addr) (x2 : Int32) (x3 : Int32) : entryFrame m #[(.ref x0), (.ref x1), (.int x2), (.int x3)] 4 = mkF m 0 #[.val (.ref x0), .val (.ref x1), .val (.int x2), .val (.int x3)] [] := by first | (simp [entryFrame, mkF, argsToLocals, Value.category]; done) | rfl
def Q_getB (Z : State) (xs : Addr) (t1 : Addr) (k1 : ClassId) (ds : List Int32) (va : Addr) (ka : ClassId) (cs : List Int32) (G : Int32) (h0 : Heap) (n0 : Nat) (v : Option Value) (h : Heap) (L : List Loc) : Prop := (v = none) ∧ (Fr n0 L) ∧ (Keep h0 h ([va] : List Addr)) ∧ (Arv Z h va ka .byte (16 : Int32) (own_bv (cs ++ ds)) (.int (0 : Int32)))
set_option maxRecDepth 65536 in
set_option maxHeartbeats 40000000 in
theorem rm_getB (l : Launch) (Z : State) (a0 : Array Value) (hw : ∀ d ∈ tables_1, d.before a0 Z = true) (ws : List Jvm.Cond) (xs : Addr) (t1 : Addr) (k1 : ClassId) (ds : List Int32) (va : Addr) (ka : ClassId) (cs : List Int32) (G : Int32) (h0 : Heap) (n0 : Nat) (Z0 : n0 ≤ h0.size) (q0 : Sta Z Z.heap "java/lang/String" "COMPACT_STRINGS" "Z" (.int G)) (hCS : ¬ (G = (0 : Int32))) (q2 : Old Z n0 h0) (q3 : Exa Z h0 xs "java/lang/String") (q4 : Fld Z h0 xs "java/lang/String" "value" "[B" (.ref t1)) (q5 : Fld Z h0 xs "java/lang/String" "coder" "B" (.int (0 : Int32))) (q6 : Arv Z h0 t1 k1 .byte (Int32.ofNat ds.length) (own_bs ds) (.int 0)) (q7 : Arv Z h0 va ka .byte (16 : Int32) (own_bv cs) (.int (0 : Int32))) (q8 : n0 ≤ va) (q9 : t1 ≠ va) (h16 : cs.length + ds.length ≤ 16) :
    MetFree l (⟨"java/lang/String", "getBytes", "([BIB)V"⟩ : MethodName) (head1 (Jvm.Cond.code (⟨"java/lang/String", "getBytes", "([BIB)V"⟩ : MethodName) jdk_42_method_147_code 4 none :: ws) ({ frames := 1, cells := 0, slots := 0, locals := 18 } : Room)) (fun a₁ U₁ => a₁ = #[(.ref xs), (.ref va), (.int (Int32.ofNat cs.length)), (.int (0 : Int32))] ∧ Z.Warmed39 U₁.vm ∧ U₁.heap = h0) (fun _ _ _ _ _ => True) (fun _ U₁ o₁ U₂ => ∃ v₁ L₁, o₁ = .returned v₁ ∧ Q_getB Z xs t1 k1 ds va ka cs G h0 n0 v₁ U₂.heap L₁ ∧ FrameEnd U₁ o₁ U₂ L₁ ({ frames := 1, cells := 0, slots := 0, locals := 18 } : Room).cells ({ frames := 1, cells := 0, slots := 0, locals := 18 } : Room).slots) := by
  refine MetFree.of_bodySF (plainFor_of_name pn_1) hisR ?_
  intro p e s m args below meth c s₁ Bd hml0 hP hK
  obtain ⟨rfl, hZ, hh⟩ := hP
  have hx := Bd.exec
  have hby := Bd.bytes
  have hml : c.maxLocals = 4 := hml0
  have hown : s.vm.findClass "java/lang/String" = some m.cls := findClass_of_methodNamed Bd.named
  have hnm := (name_of_methodNamed Bd.named Bd.method).1
  have X0 : Stand p l e ({ frames := 1, cells := 0, slots := 0, locals := 18 } : Room) s m #[(.ref xs), (.ref va), (.int (Int32.ofNat cs.length)), (.int (0 : Int32))] below meth c s₁ [] 0 0 := Stand.of_body Bd
  have e0 : s₁.heap = h0 := by rw [← hh, Bd.state]; rfl
  have N0 := Fr.nil n0
  have pre0 : ∀ t, Steps p.tables e below (s₁.setTop (mkF m 0 #[.val (.ref xs), .val (.ref va), .val (.int (Int32.ofNat cs.length)), .val (.int (0 : Int32))] [])) t → Steps p.tables e below (s₁.setTop (entryFrame m #[(.ref xs), (.ref va), (.int (Int32.ofNat cs.length)), (.int (0 : Int32))] 4)) t := fun t k => castTop (ef_4 m xs va (Int32.ofNat cs.length) (0 : Int32)) k
  obtain ⟨cq301, kq301, q301a, q301b, q301c⟩ := isOf hZ e0 q3
  obtain ⟨_, _, ⟨T301, L301, k301, n301⟩, -, X301, ⟨Lc301, hQ301, l301, y301, z301⟩, st301⟩ := X0.virtualBack hx (y := (⟨"java/lang/String", "coder", "()B"⟩ : MethodName)) (z := (⟨"java/lang/String", "coder", "()B"⟩ : MethodName)) hown (mvT hZ (hw _ (List.mem_of_getElem? (i := 72) rfl))) (mvT hZ (hw _ (List.mem_of_getElem? (i := 73) rfl))) (notFace_of_selects (args := #[]) (mvT hZ (hw _ (List.mem_of_getElem? (i := 75) rfl)))) (mvT hZ (hw _ (List.mem_of_getElem? (i := 75) rfl))) (mvT hZ (hw _ (List.mem_of_getElem? (i := 74) rfl))) (by decide) (backOf (W := 0) (rm_scod l Z a0 hw [] xs G (0 : Int32) h0 n0 Z0 q0 hCS q2 q5 (rfl)) hZ (hw _ (List.mem_of_getElem? (i := 76) rfl)) (hw _ (List.mem_of_getElem? (i := 10) rfl)) (by decide) (by decide)) q301a q301c (g := (mkF m 1 #[.val (.ref xs), .val (.ref va), .val (.int (Int32.ofNat cs.length)), .val (.int (0 : Int32))] [(.ref xs)])) rfl (by rw [hml]; rfl) (Steps.refl _) (argsL := []) (rest := []) (lenOf pd_2 rfl) rfl (by show 2 * 0 + _ ≤ _; exact Nat.le_of_eq rfl) (hb hby d_jdk_42_method_147_code_1) (fun _ _ => ⟨rfl, e0, (by decide : 0 + 0 ≤ _), (by decide : 0 + 0 ≤ _)⟩)
  dsimp only [Pt.U, Pt.locs, Pt.cells, Pt.slots] at X301 l301 y301 z301 st301 hQ301
  subst l301 y301 z301
  obtain ⟨rfl, Nq301, e301⟩ := hQ301
  have N301 := Fr.app N0 Nq301
  obtain ⟨T302, X302, e302, st302⟩ := getF X301 hx hZ hown (host := "") (Or.inl (hw _ (List.mem_of_getElem? (i := 27) rfl))) Via.refl e301 q4 (g := (mkF m 9 #[.val (.ref xs), .val (.ref va), .val (.int (Int32.ofNat cs.length)), .val (.int (0 : Int32))] [(.ref xs)])) rfl rfl (hb hby d_jdk_42_method_147_code_9)
  obtain ⟨T303, X303, e303, st303⟩ := getF X302 hx hZ hown (host := "") (Or.inl (hw _ (List.mem_of_getElem? (i := 27) rfl))) Via.refl e302 q4 (g := (mkF m 18 #[.val (.ref xs), .val (.ref va), .val (.int (Int32.ofNat cs.length)), .val (.int (0 : Int32))] [(.ref xs), (.int (Int32.ofNat cs.length)), (.ref va), (.int (0 : Int32)), (.ref t1)])) rfl rfl (hb hby d_jdk_42_method_147_code_18)
  obtain ⟨cl304, Ar304, -, S304, M304, -, -⟩ := id q6
  obtain ⟨T305, h305, lc305, X305, e305, N305, K305, fA305, st305⟩ := cpA X303 hx hZ hown (hw _ (List.mem_of_getElem? (i := 172) rfl)) (hw _ (List.mem_of_getElem? (i := 175) rfl)) (hw _ (List.mem_of_getElem? (i := 173) rfl)) (hw _ (List.mem_of_getElem? (i := 174) rfl)) e303 q6 q7 (Or.inl ⟨rfl, rfl⟩) (by decide) (own_nlt (Nat.zero_le _) (by omega)) (own_nlt (Nat.zero_le _) (by omega)) (by rw [own_clamp (by omega)]; exact Nat.le_of_eq (Nat.zero_add _)) (by rw [own_clamp (by omega), own_clamp (by omega)]; exact h16) rfl (by rw [own_clamp (by omega), own_clamp (by omega), own_bvl (by omega)]; exact h16) N301 q8 (g := (mkF m 22 #[.val (.ref xs), .val (.ref va), .val (.int (Int32.ofNat cs.length)), .val (.int (0 : Int32))] [(.int (Int32.ofNat ds.length)), (.int (Int32.ofNat cs.length)), (.ref va), (.int (0 : Int32)), (.ref t1)])) rfl (by rw [hml]; rfl) rfl (hb hby d_jdk_42_method_147_code_22) (by decide) (W := 0) (by show 2 * 0 + _ ≤ _; exact Nat.le_of_eq rfl) (by decide)
  have R306 : Arv Z h305 va ka .byte (16 : Int32) (own_bv (cs ++ ds)) (.int (0 : Int32)) := by have q := fA305; rw [own_cat16 h16] at q; exact q
  obtain ⟨fs, hr, hrun, hended, hW, hsame⟩ := X305.leave (v := none) (fun _ => rfl)
  refine ⟨_, _, pre0 _ ?_, hrun, hended, _, _, rfl, ?_, ⟨_, rfl⟩, hW, hsame.mono (by decide) (by decide)⟩
  · refine XS.aloadN X0.here hx rfl (hb hby d_jdk_42_method_147_code_0) rfl rfl ?_
    show Steps p.tables e below (s₁.setTop (mkF m 1 #[.val (.ref xs), .val (.ref va), .val (.int (Int32.ofNat cs.length)), .val (.int (0 : Int32))] [(.ref xs)])) _
    refine st301.trans ?_
    show Steps p.tables e below (T301.setTop (mkF m 4 #[.val (.ref xs), .val (.ref va), .val (.int (Int32.ofNat cs.length)), .val (.int (0 : Int32))] [(.int (0 : Int32))])) _
    refine XS.iloadN X301.here hx rfl (hb hby d_jdk_42_method_147_code_4) rfl ?_
    show Steps p.tables e below (T301.setTop (mkF m 5 #[.val (.ref xs), .val (.ref va), .val (.int (Int32.ofNat cs.length)), .val (.int (0 : Int32))] [(.int (0 : Int32)), (.int (0 : Int32))])) _
    refine XS.icmpNo X301.here hx rfl (hb hby d_jdk_42_method_147_code_5) rfl (teq ((by decide) : (0 : Int32) = (0 : Int32))).2 ?_
    show Steps p.tables e below (T301.setTop (mkF m 8 #[.val (.ref xs), .val (.ref va), .val (.int (Int32.ofNat cs.length)), .val (.int (0 : Int32))] [])) _
    refine XS.aloadN X301.here hx rfl (hb hby d_jdk_42_method_147_code_8) rfl rfl ?_
    show Steps p.tables e below (T301.setTop (mkF m 9 #[.val (.ref xs), .val (.ref va), .val (.int (Int32.ofNat cs.length)), .val (.int (0 : Int32))] [(.ref xs)])) _
    refine st302 _ ?_
    show Steps p.tables e below (T302.setTop (mkF m 12 #[.val (.ref xs), .val (.ref va), .val (.int (Int32.ofNat cs.length)), .val (.int (0 : Int32))] [(.ref t1)])) _
    refine XS.iconst X302.here hx rfl (hb hby d_jdk_42_method_147_code_12) ?_
    show Steps p.tables e below (T302.setTop (mkF m 13 #[.val (.ref xs), .val (.ref va), .val (.int (Int32.ofNat cs.length)), .val (.int (0 : Int32))] [(.int (0 : Int32)), (.ref t1)])) _
    refine XS.aloadN X302.here hx rfl (hb hby d_jdk_42_method_147_code_13) rfl rfl ?_
    show Steps p.tables e below (T302.setTop (mkF m 14 #[.val (.ref xs), .val (.ref va), .val (.int (Int32.ofNat cs.length)), .val (.int (0 : Int32))] [(.ref va), (.int (0 : Int32)), (.ref t1)])) _
    refine XS.iloadN X302.here hx rfl (hb hby d_jdk_42_method_147_code_14) rfl ?_
    show Steps p.tables e below (T302.setTop (mkF m 15 #[.val (.ref xs), .val (.ref va), .val (.int (Int32.ofNat cs.length)), .val (.int (0 : Int32))] [(.int (Int32.ofNat cs.length)), (.ref va), (.int (0 : Int32)), (.ref t1)])) _
    refine XS.iloadN X302.here hx rfl (hb hby d_jdk_42_method_147_code_15) rfl ?_
    show Steps p.tables e below (T302.setTop (mkF m 16 #[.val (.ref xs), .val (.ref va), .val (.int (Int32.ofNat cs.length)), .val (.int (0 : Int32))] [(.int (0 : Int32)), (.int (Int32.ofNat cs.length)), (.ref va), (.int (0 : Int32)), (.ref t1)])) _
    refine XS.ishl X302.here hx rfl (hb hby d_jdk_42_method_147_code_16) rfl ?_
    show Steps p.tables e below (T302.setTop (mkF m 17 #[.val (.ref xs), .val (.ref va), .val (.int (Int32.ofNat cs.length)), .val (.int (0 : Int32))] [(.int ((Int32.ofNat cs.length) <<< ((0 : Int32) &&& 31))), (.ref va), (.int (0 : Int32)), (.ref t1)])) _
    rw [own_shl0]
    show Steps p.tables e below (T302.setTop (mkF m 17 #[.val (.ref xs), .val (.ref va), .val (.int (Int32.ofNat cs.length)), .val (.int (0 : Int32))] [(.int (Int32.ofNat cs.length)), (.ref va), (.int (0 : Int32)), (.ref t1)])) _
    refine XS.aloadN X302.here hx rfl (hb hby d_jdk_42_method_147_code_17) rfl rfl ?_
    show Steps p.tables e below (T302.setTop (mkF m 18 #[.val (.ref xs), .val (.ref va), .val (.int (Int32.ofNat cs.length)), .val (.int (0 : Int32))] [(.ref xs), (.int (Int32.ofNat cs.length)), (.ref va), (.int (0 : Int32)), (.ref t1)])) _
    refine st303 _ ?_
    show Steps p.tables e below (T303.setTop (mkF m 21 #[.val (.ref xs), .val (.ref va), .val (.int (Int32.ofNat cs.length)), .val (.int (0 : Int32))] [(.ref t1), (.int (Int32.ofNat cs.length)), (.ref va), (.int (0 : Int32)), (.ref t1)])) _
    refine X303.arraylength hx (by rw [e303]; exact Ar304.1) (State.isArrayOf_alike hZ.alike Ar304.2.1) (g := (mkF m 21 #[.val (.ref xs), .val (.ref va), .val (.int (Int32.ofNat cs.length)), .val (.int (0 : Int32))] [(.ref t1), (.int (Int32.ofNat cs.length)), (.ref va), (.int (0 : Int32)), (.ref t1)])) rfl rfl (hb hby d_jdk_42_method_147_code_21) _ ?_
    rw [len_of S304 M304]
    show Steps p.tables e below (T303.setTop (mkF m 22 #[.val (.ref xs), .val (.ref va), .val (.int (Int32.ofNat cs.length)), .val (.int (0 : Int32))] [(.int (Int32.ofNat ds.length)), (.int (Int32.ofNat cs.length)), (.ref va), (.int (0 : Int32)), (.ref t1)])) _
    refine st305 _ ?_
    show Steps p.tables e below (T305.setTop (mkF m 25 #[.val (.ref xs), .val (.ref va), .val (.int (Int32.ofNat cs.length)), .val (.int (0 : Int32))] [])) _
    refine XS.goto X305.here hx rfl (pc0 := 25) (pc' := 43) rfl (hb hby d_jdk_42_method_147_code_25) (by decide) (by decide) ?_
    show Steps p.tables e below (T305.setTop (mkF m 43 #[.val (.ref xs), .val (.ref va), .val (.int (Int32.ofNat cs.length)), .val (.int (0 : Int32))] [])) _
    exact X305.returnOut hx Bd.returns (hb hby d_jdk_42_method_147_code_43) hr
  · show Q_getB Z xs t1 k1 ds va ka cs G h0 n0 _ T305.heap _
    rw [e305]
    exact ⟨rfl, N305, ((Keep.refl h0 ([va] : List Addr)).trans K305 (allS (Or.inl (by simp)) all0)), R306⟩
theorem d_jdk_68_method_71_code_0 : decode jdk_68_method_71_code 0 = .ok (.getstatic 18, 3) := by decide +kernel
theorem d_jdk_68_method_71_code_3 : decode jdk_68_method_71_code 3 = .ok (.ifCond .eq 18, 3) := by decide +kernel
theorem d_jdk_68_method_71_code_6 : decode jdk_68_method_71_code 6 = .ok (.aload_n 0, 1) := by decide +kernel
theorem d_jdk_68_method_71_code_7 : decode jdk_68_method_71_code 7 = .ok (.getfield 22, 3) := by decide +kernel
theorem d_jdk_68_method_71_code_10 : decode jdk_68_method_71_code 10 = .ok (.aload_n 1, 1) := by decide +kernel
theorem d_jdk_68_method_71_code_11 : decode jdk_68_method_71_code 11 = .ok (.invokevirtual 40, 3) := by decide +kernel
theorem d_jdk_68_method_71_code_14 : decode jdk_68_method_71_code 14 = .ok (.if_icmp .eq 7, 3) := by decide +kernel
theorem d_jdk_68_method_71_code_21 : decode jdk_68_method_71_code 21 = .ok (.return_, 1) := by decide +kernel
theorem ef_5 (m : MethodId) (x0 : Addr) (x1 : Addr) : entryFrame m #[(.ref x0), (.ref x1)] 2 = mkF m 0 #[.val (.ref x0), .val (.ref x1)] [] := by first | (simp [entryFrame, mkF, argsToLocals, Value.category]; done) | rfl
def Q_infl (Z : State) (xb : Addr) (xs : Addr) (G : Int32) (h0 : Heap) (n0 : Nat) (v : Option Value) (h : Heap) (L : List Loc) : Prop := (v = none) ∧ (Fr n0 L) ∧ (h = h0)
set_option maxRecDepth 65536 in
set_option maxHeartbeats 40000000 in
theorem rm_infl (l : Launch) (Z : State) (a0 : Array Value) (hw : ∀ d ∈ tables_1, d.before a0 Z = true) (ws : List Jvm.Cond) (xb : Addr) (xs : Addr) (G : Int32) (h0 : Heap) (n0 : Nat) (Z0 : n0 ≤ h0.size) (q0 : Sta Z Z.heap "java/lang/String" "COMPACT_STRINGS" "Z" (.int G)) (hCS : ¬ (G = (0 : Int32))) (q2 : Old Z n0 h0) (q3 : Exa Z h0 xs "java/lang/String") (q4 : Fld Z h0 xb "java/lang/AbstractStringBuilder" "coder" "B" (.int (0 : Int32))) (q5 : Fld Z h0 xs "java/lang/String" "coder" "B" (.int (0 : Int32))) :
    MetFree l (⟨"java/lang/AbstractStringBuilder", "inflateIfNeededFor", "(Ljava/lang/String;)V"⟩ : MethodName) (head1 (Jvm.Cond.code (⟨"java/lang/AbstractStringBuilder", "inflateIfNeededFor", "(Ljava/lang/String;)V"⟩ : MethodName) jdk_68_method_71_code 2 none :: ws) ({ frames := 1, cells := 0, slots := 0, locals := 13 } : Room)) (fun a₁ U₁ => a₁ = #[(.ref xb), (.ref xs)] ∧ Z.Warmed39 U₁.vm ∧ U₁.heap = h0) (fun _ _ _ _ _ => True) (fun _ U₁ o₁ U₂ => ∃ v₁ L₁, o₁ = .returned v₁ ∧ Q_infl Z xb xs G h0 n0 v₁ U₂.heap L₁ ∧ FrameEnd U₁ o₁ U₂ L₁ ({ frames := 1, cells := 0, slots := 0, locals := 13 } : Room).cells ({ frames := 1, cells := 0, slots := 0, locals := 13 } : Room).slots) := by
  refine MetFree.of_bodySF (plainFor_of_name pn_2) hisR ?_
  intro p e s m args below meth c s₁ Bd hml0 hP hK
  obtain ⟨rfl, hZ, hh⟩ := hP
  have hx := Bd.exec
  have hby := Bd.bytes
  have hml : c.maxLocals = 2 := hml0
  have hown : s.vm.findClass "java/lang/AbstractStringBuilder" = some m.cls := findClass_of_methodNamed Bd.named
  have hnm := (name_of_methodNamed Bd.named Bd.method).1
  have X0 : Stand p l e ({ frames := 1, cells := 0, slots := 0, locals := 13 } : Room) s m #[(.ref xb), (.ref xs)] below meth c s₁ [] 0 0 := Stand.of_body Bd
  have e0 : s₁.heap = h0 := by rw [← hh, Bd.state]; rfl
  have N0 := Fr.nil n0
  have pre0 : ∀ t, Steps p.tables e below (s₁.setTop (mkF m 0 #[.val (.ref xb), .val (.ref xs)] [])) t → Steps p.tables e below (s₁.setTop (entryFrame m #[(.ref xb), (.ref xs)] 2)) t := fun t k => castTop (ef_5 m xb xs) k
  obtain ⟨T301, X301, e301, st301⟩ := getS2 X0 hx hZ hown (host := "") (Or.inl (hw _ (List.mem_of_getElem? (i := 133) rfl))) Via.refl e0 (q0.ext q2.2) (g := (mkF m 0 #[.val (.ref xb), .val (.ref xs)] [])) rfl (hb hby d_jdk_68_method_71_code_0)
  obtain ⟨T302, X302, e302, st302⟩ := getF X301 hx hZ hown (host := "") (Or.inl (hw _ (List.mem_of_getElem? (i := 136) rfl))) Via.refl e301 q4 (g := (mkF m 7 #[.val (.ref xb), .val (.ref xs)] [(.ref xb)])) rfl rfl (hb hby d_jdk_68_method_71_code_7)
  obtain ⟨cq303, kq303, q303a, q303b, q303c⟩ := isOf hZ e302 q3
  obtain ⟨_, _, ⟨T303, L303, k303, n303⟩, -, X303, ⟨Lc303, hQ303, l303, y303, z303⟩, st303⟩ := X302.virtualBack hx (y := (⟨"java/lang/String", "coder", "()B"⟩ : MethodName)) (z := (⟨"java/lang/String", "coder", "()B"⟩ : MethodName)) hown (mvT hZ (hw _ (List.mem_of_getElem? (i := 166) rfl))) (mvT hZ (hw _ (List.mem_of_getElem? (i := 73) rfl))) (notFace_of_selects (args := #[]) (mvT hZ (hw _ (List.mem_of_getElem? (i := 75) rfl)))) (mvT hZ (hw _ (List.mem_of_getElem? (i := 75) rfl))) (mvT hZ (hw _ (List.mem_of_getElem? (i := 74) rfl))) (by decide) (backOf (W := 1) (rm_scod l Z a0 hw [] xs G (0 : Int32) h0 n0 Z0 q0 hCS q2 q5 (rfl)) hZ (hw _ (List.mem_of_getElem? (i := 76) rfl)) (hw _ (List.mem_of_getElem? (i := 10) rfl)) (by decide) (by decide)) q303a q303c (g := (mkF m 11 #[.val (.ref xb), .val (.ref xs)] [(.ref xs), (.int (0 : Int32))])) rfl (by rw [hml]; rfl) (Steps.refl _) (argsL := []) (rest := [(.int (0 : Int32))]) (lenOf pd_2 rfl) rfl (by show 2 * 0 + _ ≤ _; exact Nat.le_of_eq rfl) (hb hby d_jdk_68_method_71_code_11) (fun _ _ => ⟨rfl, e302, (by decide : 0 + 0 ≤ _), (by decide : 0 + 0 ≤ _)⟩)
  dsimp only [Pt.U, Pt.locs, Pt.cells, Pt.slots] at X303 l303 y303 z303 st303 hQ303
  subst l303 y303 z303
  obtain ⟨rfl, Nq303, e303⟩ := hQ303
  have N303 := Fr.app N0 Nq303
  obtain ⟨fs, hr, hrun, hended, hW, hsame⟩ := X303.leave (v := none) (fun _ => rfl)
  refine ⟨_, _, pre0 _ ?_, hrun, hended, _, _, rfl, ?_, ⟨_, rfl⟩, hW, hsame.mono (by decide) (by decide)⟩
  · refine st301 _ ?_
    show Steps p.tables e below (T301.setTop (mkF m 3 #[.val (.ref xb), .val (.ref xs)] [(.int G)])) _
    refine XS.ifNo X301.here hx rfl (hb hby d_jdk_68_method_71_code_3) rfl ((if0 _ _).trans (feq (hCS : ¬ (G = (0 : Int32)))).1) ?_
    show Steps p.tables e below (T301.setTop (mkF m 6 #[.val (.ref xb), .val (.ref xs)] [])) _
    refine XS.aloadN X301.here hx rfl (hb hby d_jdk_68_method_71_code_6) rfl rfl ?_
    show Steps p.tables e below (T301.setTop (mkF m 7 #[.val (.ref xb), .val (.ref xs)] [(.ref xb)])) _
    refine st302 _ ?_
    show Steps p.tables e below (T302.setTop (mkF m 10 #[.val (.ref xb), .val (.ref xs)] [(.int (0 : Int32))])) _
    refine XS.aloadN X302.here hx rfl (hb hby d_jdk_68_method_71_code_10) rfl rfl ?_
    show Steps p.tables e below (T302.setTop (mkF m 11 #[.val (.ref xb), .val (.ref xs)] [(.ref xs), (.int (0 : Int32))])) _
    refine st303.trans ?_
    show Steps p.tables e below (T303.setTop (mkF m 14 #[.val (.ref xb), .val (.ref xs)] [(.int (0 : Int32)), (.int (0 : Int32))])) _
    refine XS.icmpYes X303.here hx rfl (pc0 := 14) (pc' := 21) rfl (hb hby d_jdk_68_method_71_code_14) rfl (teq ((by decide) : (0 : Int32) = (0 : Int32))).1 (by decide) (by decide) ?_
    show Steps p.tables e below (T303.setTop (mkF m 21 #[.val (.ref xb), .val (.ref xs)] [])) _
    exact X303.returnOut hx Bd.returns (hb hby d_jdk_68_method_71_code_21) hr
  · show Q_infl Z xb xs G h0 n0 _ T303.heap _
    rw [e303]
    exact ⟨rfl, N303, rfl⟩
theorem d_jdk_68_method_73_code_0 : decode jdk_68_method_73_code 0 = .ok (.aload_n 0, 1) := by decide +kernel
theorem d_jdk_68_method_73_code_1 : decode jdk_68_method_73_code 1 = .ok (.aload_n 2, 1) := by decide +kernel
theorem d_jdk_68_method_73_code_2 : decode jdk_68_method_73_code 2 = .ok (.invokevirtual 397, 3) := by decide +kernel
theorem pd_3 : parseMethodDescriptor "(Ljava/lang/String;)V" = some ⟨[(.object "java/lang/String")], none⟩ := by decide +kernel
theorem d_jdk_68_method_73_code_5 : decode jdk_68_method_73_code 5 = .ok (.aload_n 2, 1) := by decide +kernel
theorem d_jdk_68_method_73_code_6 : decode jdk_68_method_73_code 6 = .ok (.aload_n 0, 1) := by decide +kernel
theorem d_jdk_68_method_73_code_7 : decode jdk_68_method_73_code 7 = .ok (.getfield 15, 3) := by decide +kernel
theorem d_jdk_68_method_73_code_10 : decode jdk_68_method_73_code 10 = .ok (.iload_n 1, 1) := by decide +kernel
theorem d_jdk_68_method_73_code_11 : decode jdk_68_method_73_code 11 = .ok (.aload_n 0, 1) := by decide +kernel
theorem d_jdk_68_method_73_code_12 : decode jdk_68_method_73_code 12 = .ok (.getfield 22, 3) := by decide +kernel
theorem d_jdk_68_method_73_code_15 : decode jdk_68_method_73_code 15 = .ok (.invokevirtual 399, 3) := by decide +kernel
theorem pd_4 : parseMethodDescriptor "([BIB)V" = some ⟨[(.array .byte), .int, .byte], none⟩ := by decide +kernel
theorem d_jdk_68_method_73_code_18 : decode jdk_68_method_73_code 18 = .ok (.return_, 1) := by decide +kernel
theorem ef_6 (m : MethodId) (x0 : Addr) (x1 : Int32) (x2 : Addr) : entryFrame m #[(.ref x0), (.int x1), (.ref x2)] 3 = mkF m 0 #[.val (.ref x0), .val (.int x1), .val (.ref x2)] [] := by first | (simp [entryFrame, mkF, argsToLocals, Value.category]; done) | rfl
def Q_putS (Z : State) (xb : Addr) (xs : Addr) (t1 : Addr) (k1 : ClassId) (ds : List Int32) (va : Addr) (ka : ClassId) (cs : List Int32) (G : Int32) (h0 : Heap) (n0 : Nat) (v : Option Value) (h : Heap) (L : List Loc) : Prop := (v = none) ∧ (Fr n0 L) ∧ (Keep h0 h ([va] : List Addr)) ∧ (Arv Z h va ka .byte (16 : Int32) (own_bv (cs ++ ds)) (.int (0 : Int32)))
set_option maxRecDepth 65536 in
set_option maxHeartbeats 40000000 in
theorem rm_putS (l : Launch) (Z : State) (a0 : Array Value) (hw : ∀ d ∈ tables_1, d.before a0 Z = true) (ws : List Jvm.Cond) (xb : Addr) (xs : Addr) (t1 : Addr) (k1 : ClassId) (ds : List Int32) (va : Addr) (ka : ClassId) (cs : List Int32) (G : Int32) (h0 : Heap) (n0 : Nat) (Z0 : n0 ≤ h0.size) (q0 : Sta Z Z.heap "java/lang/String" "COMPACT_STRINGS" "Z" (.int G)) (hCS : ¬ (G = (0 : Int32))) (q2 : Old Z n0 h0) (q3 : Exa Z h0 xs "java/lang/String") (q4 : Fld Z h0 xs "java/lang/String" "value" "[B" (.ref t1)) (q5 : Fld Z h0 xs "java/lang/String" "coder" "B" (.int (0 : Int32))) (q6 : Arv Z h0 t1 k1 .byte (Int32.ofNat ds.length) (own_bs ds) (.int 0)) (q7 : Exa Z h0 xb "java/lang/StringBuilder") (q8 : Fld Z h0 xb "java/lang/AbstractStringBuilder" "value" "[B" (.ref va)) (q9 : Fld Z h0 xb "java/lang/AbstractStringBuilder" "coder" "B" (.int (0 : Int32))) (q10 : Arv Z h0 va ka .byte (16 : Int32) (own_bv cs) (.int (0 : Int32))) (q11 : n0 ≤ va) (q12 : t1 ≠ va) (h16 : cs.length + ds.length ≤ 16) :
    MetFree l (⟨"java/lang/AbstractStringBuilder", "putStringAt", "(ILjava/lang/String;)V"⟩ : MethodName) (head1 (Jvm.Cond.code (⟨"java/lang/AbstractStringBuilder", "putStringAt", "(ILjava/lang/String;)V"⟩ : MethodName) jdk_68_method_73_code 3 none :: ws) ({ frames := 2, cells := 0, slots := 0, locals := 33 } : Room)) (fun a₁ U₁ => a₁ = #[(.ref xb), (.int (Int32.ofNat cs.length)), (.ref xs)] ∧ Z.Warmed39 U₁.vm ∧ U₁.heap = h0) (fun _ _ _ _ _ => True) (fun _ U₁ o₁ U₂ => ∃ v₁ L₁, o₁ = .returned v₁ ∧ Q_putS Z xb xs t1 k1 ds va ka cs G h0 n0 v₁ U₂.heap L₁ ∧ FrameEnd U₁ o₁ U₂ L₁ ({ frames := 2, cells := 0, slots := 0, locals := 33 } : Room).cells ({ frames := 2, cells := 0, slots := 0, locals := 33 } : Room).slots) := by
  refine MetFree.of_bodySF (plainFor_of_name pn_2) hisR ?_
  intro p e s m args below meth c s₁ Bd hml0 hP hK
  obtain ⟨rfl, hZ, hh⟩ := hP
  have hx := Bd.exec
  have hby := Bd.bytes
  have hml : c.maxLocals = 3 := hml0
  have hown : s.vm.findClass "java/lang/AbstractStringBuilder" = some m.cls := findClass_of_methodNamed Bd.named
  have hnm := (name_of_methodNamed Bd.named Bd.method).1
  have X0 : Stand p l e ({ frames := 2, cells := 0, slots := 0, locals := 33 } : Room) s m #[(.ref xb), (.int (Int32.ofNat cs.length)), (.ref xs)] below meth c s₁ [] 0 0 := Stand.of_body Bd
  have e0 : s₁.heap = h0 := by rw [← hh, Bd.state]; rfl
  have N0 := Fr.nil n0
  have pre0 : ∀ t, Steps p.tables e below (s₁.setTop (mkF m 0 #[.val (.ref xb), .val (.int (Int32.ofNat cs.length)), .val (.ref xs)] [])) t → Steps p.tables e below (s₁.setTop (entryFrame m #[(.ref xb), (.int (Int32.ofNat cs.length)), (.ref xs)] 3)) t := fun t k => castTop (ef_6 m xb (Int32.ofNat cs.length) xs) k
  obtain ⟨cq301, q301_, q301_'⟩ := q7.cell
  obtain ⟨_, _, ⟨T301, L301, k301, n301⟩, -, X301, ⟨Lc301, hQ301, l301, y301, z301⟩, st301⟩ := X0.privateBack hx (y := (⟨"java/lang/AbstractStringBuilder", "inflateIfNeededFor", "(Ljava/lang/String;)V"⟩ : MethodName)) hown (mvT hZ (hw _ (List.mem_of_getElem? (i := 161) rfl))) (mvT hZ (hw _ (List.mem_of_getElem? (i := 162) rfl))) (own_selpriv (by decide) (mvT hZ (hw _ (List.mem_of_getElem? (i := 164) rfl))) (mvP hZ (hw _ (List.mem_of_getElem? (i := 163) rfl))) (mvT hZ (hw _ (List.mem_of_getElem? (i := 162) rfl)))) (Cond.privateMethod_at (mvP hZ (hw _ (List.mem_of_getElem? (i := 163) rfl)) (args := #[]))) (mvT hZ (hw _ (List.mem_of_getElem? (i := 165) rfl))) (by decide) (backOf (W := 0) (rm_infl l Z a0 hw [] xb xs G h0 n0 Z0 q0 hCS q2 q3 q9 q5) hZ (hw _ (List.mem_of_getElem? (i := 165) rfl)) (hw _ (List.mem_of_getElem? (i := 130) rfl)) (by decide) (by decide)) (g := (mkF m 2 #[.val (.ref xb), .val (.int (Int32.ofNat cs.length)), .val (.ref xs)] [(.ref xs), (.ref xb)])) rfl (by rw [hml]; rfl) (Steps.refl _) (a := xb) (by rw [e0]; exact q301_) q301_' (argsL := [(.ref xs)]) (rest := []) (lenOf pd_3 rfl) rfl (by show 2 * 0 + _ ≤ _; exact Nat.le_of_eq rfl) (hb hby d_jdk_68_method_73_code_2) (fun _ _ => ⟨rfl, e0, (by decide : 0 + 0 ≤ _), (by decide : 0 + 0 ≤ _)⟩)
  dsimp only [Pt.U, Pt.locs, Pt.cells, Pt.slots] at X301 l301 y301 z301 st301 hQ301
  subst l301 y301 z301
  obtain ⟨rfl, Nq301, e301⟩ := hQ301
  have N301 := Fr.app N0 Nq301
  obtain ⟨T302, X302, e302, st302⟩ := getF X301 hx hZ hown (host := "") (Or.inl (hw _ (List.mem_of_getElem? (i := 134) rfl))) Via.refl e301 q8 (g := (mkF m 7 #[.val (.ref xb), .val (.int (Int32.ofNat cs.length)), .val (.ref xs)] [(.ref xb), (.ref xs)])) rfl rfl (hb hby d_jdk_68_method_73_code_7)
  obtain ⟨T303, X303, e303, st303⟩ := getF X302 hx hZ hown (host := "") (Or.inl (hw _ (List.mem_of_getElem? (i := 136) rfl))) Via.refl e302 q9 (g := (mkF m 12 #[.val (.ref xb), .val (.int (Int32.ofNat cs.length)), .val (.ref xs)] [(.ref xb), (.int (Int32.ofNat cs.length)), (.ref va), (.ref xs)])) rfl rfl (hb hby d_jdk_68_method_73_code_12)
  obtain ⟨cq304, kq304, q304a, q304b, q304c⟩ := isOf hZ e303 q3
  obtain ⟨_, _, ⟨T304, L304, k304, n304⟩, -, X304, ⟨Lc304, hQ304, l304, y304, z304⟩, st304⟩ := X303.virtualBack hx (y := (⟨"java/lang/String", "getBytes", "([BIB)V"⟩ : MethodName)) (z := (⟨"java/lang/String", "getBytes", "([BIB)V"⟩ : MethodName)) hown (mvT hZ (hw _ (List.mem_of_getElem? (i := 167) rfl))) (mvT hZ (hw _ (List.mem_of_getElem? (i := 168) rfl))) (notFace_of_selects (args := #[]) (mvT hZ (hw _ (List.mem_of_getElem? (i := 170) rfl)))) (mvT hZ (hw _ (List.mem_of_getElem? (i := 170) rfl))) (mvT hZ (hw _ (List.mem_of_getElem? (i := 169) rfl))) (by decide) (backOf (W := 0) (rm_getB l Z a0 hw [] xs t1 k1 ds va ka cs G h0 n0 Z0 q0 hCS q2 q3 q4 q5 q6 q10 q11 q12 h16) hZ (hw _ (List.mem_of_getElem? (i := 171) rfl)) (hw _ (List.mem_of_getElem? (i := 10) rfl)) (by decide) (by decide)) q304a q304c (g := (mkF m 15 #[.val (.ref xb), .val (.int (Int32.ofNat cs.length)), .val (.ref xs)] [(.int (0 : Int32)), (.int (Int32.ofNat cs.length)), (.ref va), (.ref xs)])) rfl (by rw [hml]; rfl) (Steps.refl _) (argsL := [(.ref va), (.int (Int32.ofNat cs.length)), (.int (0 : Int32))]) (rest := []) (lenOf pd_4 rfl) rfl (by show 2 * 0 + _ ≤ _; exact Nat.le_of_eq rfl) (hb hby d_jdk_68_method_73_code_15) (fun _ _ => ⟨rfl, e303, (by decide : 0 + 0 ≤ _), (by decide : 0 + 0 ≤ _)⟩)
  dsimp only [Pt.U, Pt.locs, Pt.cells, Pt.slots] at X304 l304 y304 z304 st304 hQ304
  subst l304 y304 z304
  obtain ⟨rfl, Nq304, K304, f304_0⟩ := hQ304
  have N304 := Fr.app N301 Nq304
  obtain ⟨fs, hr, hrun, hended, hW, hsame⟩ := X304.leave (v := none) (fun _ => rfl)
  refine ⟨_, _, pre0 _ ?_, hrun, hended, _, _, rfl, ?_, ⟨_, rfl⟩, hW, hsame.mono (by decide) (by decide)⟩
  · refine XS.aloadN X0.here hx rfl (hb hby d_jdk_68_method_73_code_0) rfl rfl ?_
    show Steps p.tables e below (s₁.setTop (mkF m 1 #[.val (.ref xb), .val (.int (Int32.ofNat cs.length)), .val (.ref xs)] [(.ref xb)])) _
    refine XS.aloadN X0.here hx rfl (hb hby d_jdk_68_method_73_code_1) rfl rfl ?_
    show Steps p.tables e below (s₁.setTop (mkF m 2 #[.val (.ref xb), .val (.int (Int32.ofNat cs.length)), .val (.ref xs)] [(.ref xs), (.ref xb)])) _
    refine st301.trans ?_
    show Steps p.tables e below (T301.setTop (mkF m 5 #[.val (.ref xb), .val (.int (Int32.ofNat cs.length)), .val (.ref xs)] [])) _
    refine XS.aloadN X301.here hx rfl (hb hby d_jdk_68_method_73_code_5) rfl rfl ?_
    show Steps p.tables e below (T301.setTop (mkF m 6 #[.val (.ref xb), .val (.int (Int32.ofNat cs.length)), .val (.ref xs)] [(.ref xs)])) _
    refine XS.aloadN X301.here hx rfl (hb hby d_jdk_68_method_73_code_6) rfl rfl ?_
    show Steps p.tables e below (T301.setTop (mkF m 7 #[.val (.ref xb), .val (.int (Int32.ofNat cs.length)), .val (.ref xs)] [(.ref xb), (.ref xs)])) _
    refine st302 _ ?_
    show Steps p.tables e below (T302.setTop (mkF m 10 #[.val (.ref xb), .val (.int (Int32.ofNat cs.length)), .val (.ref xs)] [(.ref va), (.ref xs)])) _
    refine XS.iloadN X302.here hx rfl (hb hby d_jdk_68_method_73_code_10) rfl ?_
    show Steps p.tables e below (T302.setTop (mkF m 11 #[.val (.ref xb), .val (.int (Int32.ofNat cs.length)), .val (.ref xs)] [(.int (Int32.ofNat cs.length)), (.ref va), (.ref xs)])) _
    refine XS.aloadN X302.here hx rfl (hb hby d_jdk_68_method_73_code_11) rfl rfl ?_
    show Steps p.tables e below (T302.setTop (mkF m 12 #[.val (.ref xb), .val (.int (Int32.ofNat cs.length)), .val (.ref xs)] [(.ref xb), (.int (Int32.ofNat cs.length)), (.ref va), (.ref xs)])) _
    refine st303 _ ?_
    show Steps p.tables e below (T303.setTop (mkF m 15 #[.val (.ref xb), .val (.int (Int32.ofNat cs.length)), .val (.ref xs)] [(.int (0 : Int32)), (.int (Int32.ofNat cs.length)), (.ref va), (.ref xs)])) _
    refine st304.trans ?_
    show Steps p.tables e below (T304.setTop (mkF m 18 #[.val (.ref xb), .val (.int (Int32.ofNat cs.length)), .val (.ref xs)] [])) _
    exact X304.returnOut hx Bd.returns (hb hby d_jdk_68_method_73_code_18) hr
  · show Q_putS Z xb xs t1 k1 ds va ka cs G h0 n0 _ T304.heap _
    exact ⟨rfl, N304, ((Keep.refl h0 ([va] : List Addr)).trans K304 (allS (Or.inl (by simp)) all0)), f304_0⟩
theorem d_jdk_68_method_22_code_0 : decode jdk_68_method_22_code 0 = .ok (.aload_n 1, 1) := by decide +kernel
theorem d_jdk_68_method_22_code_1 : decode jdk_68_method_22_code 1 = .ok (.ifnonnull 8, 3) := by decide +kernel
theorem d_jdk_68_method_22_code_9 : decode jdk_68_method_22_code 9 = .ok (.aload_n 1, 1) := by decide +kernel
theorem d_jdk_68_method_22_code_10 : decode jdk_68_method_22_code 10 = .ok (.invokevirtual 32, 3) := by decide +kernel
theorem d_jdk_68_method_22_code_13 : decode jdk_68_method_22_code 13 = .ok (.istore_n 2, 1) := by decide +kernel
theorem d_jdk_68_method_22_code_14 : decode jdk_68_method_22_code 14 = .ok (.aload_n 0, 1) := by decide +kernel
theorem d_jdk_68_method_22_code_15 : decode jdk_68_method_22_code 15 = .ok (.aload_n 0, 1) := by decide +kernel
theorem d_jdk_68_method_22_code_16 : decode jdk_68_method_22_code 16 = .ok (.getfield 79, 3) := by decide +kernel
theorem d_jdk_68_method_22_code_19 : decode jdk_68_method_22_code 19 = .ok (.iload_n 2, 1) := by decide +kernel
theorem d_jdk_68_method_22_code_20 : decode jdk_68_method_22_code 20 = .ok (.iadd, 1) := by decide +kernel
theorem d_jdk_68_method_22_code_21 : decode jdk_68_method_22_code 21 = .ok (.invokevirtual 100, 3) := by decide +kernel
theorem d_jdk_68_method_22_code_24 : decode jdk_68_method_22_code 24 = .ok (.aload_n 0, 1) := by decide +kernel
theorem d_jdk_68_method_22_code_25 : decode jdk_68_method_22_code 25 = .ok (.aload_n 0, 1) := by decide +kernel
theorem d_jdk_68_method_22_code_26 : decode jdk_68_method_22_code 26 = .ok (.getfield 79, 3) := by decide +kernel
theorem d_jdk_68_method_22_code_29 : decode jdk_68_method_22_code 29 = .ok (.aload_n 1, 1) := by decide +kernel
theorem d_jdk_68_method_22_code_30 : decode jdk_68_method_22_code 30 = .ok (.invokevirtual 208, 3) := by decide +kernel
theorem pd_5 : parseMethodDescriptor "(ILjava/lang/String;)V" = some ⟨[.int, (.object "java/lang/String")], none⟩ := by decide +kernel
theorem d_jdk_68_method_22_code_33 : decode jdk_68_method_22_code 33 = .ok (.aload_n 0, 1) := by decide +kernel
theorem d_jdk_68_method_22_code_34 : decode jdk_68_method_22_code 34 = .ok (.dup, 1) := by decide +kernel
theorem d_jdk_68_method_22_code_35 : decode jdk_68_method_22_code 35 = .ok (.getfield 79, 3) := by decide +kernel
theorem d_jdk_68_method_22_code_38 : decode jdk_68_method_22_code 38 = .ok (.iload_n 2, 1) := by decide +kernel
theorem d_jdk_68_method_22_code_39 : decode jdk_68_method_22_code 39 = .ok (.iadd, 1) := by decide +kernel
theorem d_jdk_68_method_22_code_40 : decode jdk_68_method_22_code 40 = .ok (.putfield 79, 3) := by decide +kernel
theorem d_jdk_68_method_22_code_43 : decode jdk_68_method_22_code 43 = .ok (.aload_n 0, 1) := by decide +kernel
theorem d_jdk_68_method_22_code_44 : decode jdk_68_method_22_code 44 = .ok (.areturn, 1) := by decide +kernel
theorem ef_7 (m : MethodId) (x0 : Addr) (x1 : Addr) : entryFrame m #[(.ref x0), (.ref x1)] 3 = mkF m 0 #[.val (.ref x0), .val (.ref x1), .unset] [] := by first | (simp [entryFrame, mkF, argsToLocals, Value.category]; done) | rfl
def Q_aappS (Z : State) (xb : Addr) (xs : Addr) (t1 : Addr) (k1 : ClassId) (ds : List Int32) (va : Addr) (ka : ClassId) (cs : List Int32) (G : Int32) (h0 : Heap) (n0 : Nat) (v : Option Value) (h : Heap) (L : List Loc) : Prop := (v = some (.ref xb)) ∧ (Fr n0 L) ∧ (Keep h0 h ([xb, va] : List Addr)) ∧ (Fld Z h xb "java/lang/AbstractStringBuilder" "value" "[B" (.ref va)) ∧ (Fld Z h xb "java/lang/AbstractStringBuilder" "coder" "B" (.int (0 : Int32))) ∧ (Fld Z h xb "java/lang/AbstractStringBuilder" "count" "I" (.int (Int32.ofNat (cs ++ ds).length))) ∧ (Arv Z h va ka .byte (16 : Int32) (own_bv (cs ++ ds)) (.int (0 : Int32)))
set_option maxRecDepth 65536 in
set_option maxHeartbeats 40000000 in
theorem rm_aappS (l : Launch) (Z : State) (a0 : Array Value) (hw : ∀ d ∈ tables_1, d.before a0 Z = true) (ws : List Jvm.Cond) (xb : Addr) (xs : Addr) (t1 : Addr) (k1 : ClassId) (ds : List Int32) (va : Addr) (ka : ClassId) (cs : List Int32) (G : Int32) (h0 : Heap) (n0 : Nat) (Z0 : n0 ≤ h0.size) (q0 : Sta Z Z.heap "java/lang/String" "COMPACT_STRINGS" "Z" (.int G)) (hCS : ¬ (G = (0 : Int32))) (q2 : Old Z n0 h0) (q3 : Exa Z h0 xs "java/lang/String") (q4 : Fld Z h0 xs "java/lang/String" "value" "[B" (.ref t1)) (q5 : Fld Z h0 xs "java/lang/String" "coder" "B" (.int (0 : Int32))) (q6 : Arv Z h0 t1 k1 .byte (Int32.ofNat ds.length) (own_bs ds) (.int 0)) (q7 : Exa Z h0 xb "java/lang/StringBuilder") (q8 : Fld Z h0 xb "java/lang/AbstractStringBuilder" "value" "[B" (.ref va)) (q9 : Fld Z h0 xb "java/lang/AbstractStringBuilder" "coder" "B" (.int (0 : Int32))) (q10 : Fld Z h0 xb "java/lang/AbstractStringBuilder" "count" "I" (.int (Int32.ofNat cs.length))) (q11 : Arv Z h0 va ka .byte (16 : Int32) (own_bv cs) (.int (0 : Int32))) (q12 : n0 ≤ xb) (q13 : n0 ≤ va) (q14 : xb ≠ va) (q15 : t1 ≠ va) (q16 : xs ≠ xb) (q17 : xs ≠ va) (q18 : t1 ≠ xb) (h16 : cs.length + ds.length ≤ 16) (hcd1 : StrChars.Road.CodA ds 0 (Int32.ofNat ds.length) (own_bs ds)) (hbd1 : ∀ c ∈ ds, ¬ c < 0 ∧ ¬ (65535 : Int32) < c) :
    MetFree l (⟨"java/lang/AbstractStringBuilder", "append", "(Ljava/lang/String;)Ljava/lang/AbstractStringBuilder;"⟩ : MethodName) (head1 (Jvm.Cond.code (⟨"java/lang/AbstractStringBuilder", "append", "(Ljava/lang/String;)Ljava/lang/AbstractStringBuilder;"⟩ : MethodName) jdk_68_method_22_code 3 (some (.object "java/lang/AbstractStringBuilder")) :: ws) ({ frames := 3, cells := 0, slots := 0, locals := 47 } : Room)) (fun a₁ U₁ => a₁ = #[(.ref xb), (.ref xs)] ∧ Z.Warmed39 U₁.vm ∧ U₁.heap = h0) (fun _ _ _ _ _ => True) (fun _ U₁ o₁ U₂ => ∃ v₁ L₁, o₁ = .returned v₁ ∧ Q_aappS Z xb xs t1 k1 ds va ka cs G h0 n0 v₁ U₂.heap L₁ ∧ FrameEnd U₁ o₁ U₂ L₁ ({ frames := 3, cells := 0, slots := 0, locals := 47 } : Room).cells ({ frames := 3, cells := 0, slots := 0, locals := 47 } : Room).slots) := by
  refine MetFree.of_bodySF (plainFor_of_name pn_2) hisR ?_
  intro p e s m args below meth c s₁ Bd hml0 hP hK
  obtain ⟨rfl, hZ, hh⟩ := hP
  have hx := Bd.exec
  have hby := Bd.bytes
  have hml : c.maxLocals = 3 := hml0
  have hown : s.vm.findClass "java/lang/AbstractStringBuilder" = some m.cls := findClass_of_methodNamed Bd.named
  have hnm := (name_of_methodNamed Bd.named Bd.method).1
  have X0 : Stand p l e ({ frames := 3, cells := 0, slots := 0, locals := 47 } : Room) s m #[(.ref xb), (.ref xs)] below meth c s₁ [] 0 0 := Stand.of_body Bd
  have e0 : s₁.heap = h0 := by rw [← hh, Bd.state]; rfl
  have N0 := Fr.nil n0
  have pre0 : ∀ t, Steps p.tables e below (s₁.setTop (mkF m 0 #[.val (.ref xb), .val (.ref xs), .unset] [])) t → Steps p.tables e below (s₁.setTop (entryFrame m #[(.ref xb), (.ref xs)] 3)) t := fun t k => castTop (ef_7 m xb xs) k
  obtain ⟨cq301, kq301, q301a, q301b, q301c⟩ := isOf hZ e0 q3
  obtain ⟨_, _, ⟨T301, L301, k301, n301⟩, -, X301, ⟨Lc301, hQ301, l301, y301, z301⟩, st301⟩ := X0.virtualBack hx (y := (⟨"java/lang/String", "length", "()I"⟩ : MethodName)) (z := (⟨"java/lang/String", "length", "()I"⟩ : MethodName)) hown (mvT hZ (hw _ (List.mem_of_getElem? (i := 148) rfl))) (mvT hZ (hw _ (List.mem_of_getElem? (i := 68) rfl))) (notFace_of_selects (args := #[]) (mvT hZ (hw _ (List.mem_of_getElem? (i := 70) rfl)))) (mvT hZ (hw _ (List.mem_of_getElem? (i := 70) rfl))) (mvT hZ (hw _ (List.mem_of_getElem? (i := 69) rfl))) (by decide) (StrChars.Road.lenW (W := 0) hZ (own_hw_lenW hw) (kI := 4) (hw _ (List.mem_of_getElem? (i := 9) rfl)) q3 q4 q5 q6 hcd1 hbd1 (q0.ext q2.2) hCS (by omega) (by decide) (by decide)) q301a q301c (g := (mkF m 10 #[.val (.ref xb), .val (.ref xs), .unset] [(.ref xs)])) rfl (by rw [hml]; rfl) (Steps.refl _) (argsL := []) (rest := []) (lenOf pd_0 rfl) rfl (by show 2 * 0 + _ ≤ _; exact Nat.le_of_eq rfl) (hb hby d_jdk_68_method_22_code_10) (fun _ _ => ⟨rfl, e0, (by decide : 0 + 0 ≤ _), (by decide : 0 + 0 ≤ _)⟩)
  dsimp only [Pt.U, Pt.locs, Pt.cells, Pt.slots] at X301 l301 y301 z301 st301 hQ301
  subst l301 y301 z301
  obtain ⟨rfl, rfl, e301⟩ := hQ301
  have N301 := Fr.app N0 (Fr.nil n0)
  obtain ⟨T302, X302, e302, st302⟩ := getF X301 hx hZ hown (host := "") (Or.inl (hw _ (List.mem_of_getElem? (i := 149) rfl))) Via.refl e301 q10 (g := (mkF m 16 #[.val (.ref xb), .val (.ref xs), .val (.int (Int32.ofNat (ds).length))] [(.ref xb), (.ref xb)])) rfl rfl (hb hby d_jdk_68_method_22_code_16)
  obtain ⟨cq303, q303_, q303_'⟩ := q7.cell
  obtain ⟨_, _, ⟨T303, L303, k303, n303⟩, -, X303, ⟨Lc303, hQ303, l303, y303, z303⟩, st303⟩ := X302.privateBack hx (y := (⟨"java/lang/AbstractStringBuilder", "ensureCapacityInternal", "(I)V"⟩ : MethodName)) hown (mvT hZ (hw _ (List.mem_of_getElem? (i := 151) rfl))) (mvT hZ (hw _ (List.mem_of_getElem? (i := 152) rfl))) (own_selpriv (by decide) (mvT hZ (hw _ (List.mem_of_getElem? (i := 154) rfl))) (mvP hZ (hw _ (List.mem_of_getElem? (i := 153) rfl))) (mvT hZ (hw _ (List.mem_of_getElem? (i := 152) rfl)))) (Cond.privateMethod_at (mvP hZ (hw _ (List.mem_of_getElem? (i := 153) rfl)) (args := #[]))) (mvT hZ (hw _ (List.mem_of_getElem? (i := 155) rfl))) (by decide) (backOf (W := 0) (rm_ensC l Z a0 hw [] xb (Int32.ofNat (cs.length + ds.length)) va ka cs h0 n0 Z0 q8 q9 q11 (own_fit16 h16)) hZ (hw _ (List.mem_of_getElem? (i := 155) rfl)) (hw _ (List.mem_of_getElem? (i := 130) rfl)) (by decide) (by decide)) (g := (mkF m 21 #[.val (.ref xb), .val (.ref xs), .val (.int (Int32.ofNat (ds).length))] [(.int (Int32.ofNat (cs.length + ds.length))), (.ref xb)])) rfl (by rw [hml]; rfl) (Steps.refl _) (a := xb) (by rw [e302]; exact q303_) q303_' (argsL := [(.int (Int32.ofNat (cs.length + ds.length)))]) (rest := []) (lenOf pd_1 rfl) rfl (by show 2 * 0 + _ ≤ _; exact Nat.le_of_eq rfl) (hb hby d_jdk_68_method_22_code_21) (fun _ _ => ⟨rfl, e302, (by decide : 0 + 0 ≤ _), (by decide : 0 + 0 ≤ _)⟩)
  dsimp only [Pt.U, Pt.locs, Pt.cells, Pt.slots] at X303 l303 y303 z303 st303 hQ303
  subst l303 y303 z303
  obtain ⟨rfl, Nq303, e303⟩ := hQ303
  have N303 := Fr.app N301 Nq303
  obtain ⟨T304, X304, e304, st304⟩ := getF X303 hx hZ hown (host := "") (Or.inl (hw _ (List.mem_of_getElem? (i := 149) rfl))) Via.refl e303 q10 (g := (mkF m 26 #[.val (.ref xb), .val (.ref xs), .val (.int (Int32.ofNat (ds).length))] [(.ref xb), (.ref xb)])) rfl rfl (hb hby d_jdk_68_method_22_code_26)
  obtain ⟨cq305, q305_, q305_'⟩ := q7.cell
  obtain ⟨_, _, ⟨T305, L305, k305, n305⟩, -, X305, ⟨Lc305, hQ305, l305, y305, z305⟩, st305⟩ := X304.privateBack hx (y := (⟨"java/lang/AbstractStringBuilder", "putStringAt", "(ILjava/lang/String;)V"⟩ : MethodName)) hown (mvT hZ (hw _ (List.mem_of_getElem? (i := 156) rfl))) (mvT hZ (hw _ (List.mem_of_getElem? (i := 157) rfl))) (own_selpriv (by decide) (mvT hZ (hw _ (List.mem_of_getElem? (i := 159) rfl))) (mvP hZ (hw _ (List.mem_of_getElem? (i := 158) rfl))) (mvT hZ (hw _ (List.mem_of_getElem? (i := 157) rfl)))) (Cond.privateMethod_at (mvP hZ (hw _ (List.mem_of_getElem? (i := 158) rfl)) (args := #[]))) (mvT hZ (hw _ (List.mem_of_getElem? (i := 160) rfl))) (by decide) (backOf (W := 0) (rm_putS l Z a0 hw [] xb xs t1 k1 ds va ka cs G h0 n0 Z0 q0 hCS q2 q3 q4 q5 q6 q7 q8 q9 q11 q13 q15 h16) hZ (hw _ (List.mem_of_getElem? (i := 160) rfl)) (hw _ (List.mem_of_getElem? (i := 130) rfl)) (by decide) (by decide)) (g := (mkF m 30 #[.val (.ref xb), .val (.ref xs), .val (.int (Int32.ofNat (ds).length))] [(.ref xs), (.int (Int32.ofNat cs.length)), (.ref xb)])) rfl (by rw [hml]; rfl) (Steps.refl _) (a := xb) (by rw [e304]; exact q305_) q305_' (argsL := [(.int (Int32.ofNat cs.length)), (.ref xs)]) (rest := []) (lenOf pd_5 rfl) rfl (by show 2 * 0 + _ ≤ _; exact Nat.le_of_eq rfl) (hb hby d_jdk_68_method_22_code_30) (fun _ _ => ⟨rfl, e304, (by decide : 0 + 0 ≤ _), (by decide : 0 + 0 ≤ _)⟩)
  dsimp only [Pt.U, Pt.locs, Pt.cells, Pt.slots] at X305 l305 y305 z305 st305 hQ305
  subst l305 y305 z305
  obtain ⟨rfl, Nq305, K305, f305_0⟩ := hQ305
  have N305 := Fr.app N303 Nq305
  have c306 : Fld Z T305.heap xb "java/lang/AbstractStringBuilder" "count" "I" (.int (Int32.ofNat cs.length)) := (q10.keep K305 (ninS q14 nin0))
  obtain ⟨T307, X307, e307, st307⟩ := getF X305 hx hZ hown (host := "") (Or.inl (hw _ (List.mem_of_getElem? (i := 149) rfl))) Via.refl rfl c306 (g := (mkF m 35 #[.val (.ref xb), .val (.ref xs), .val (.int (Int32.ofNat (ds).length))] [(.ref xb), (.ref xb)])) rfl rfl (hb hby d_jdk_68_method_22_code_35)
  have c308 : Exa Z T305.heap xb "java/lang/StringBuilder" := (q7.keep K305)
  obtain ⟨T309, h309, X309, e309, W309, st309⟩ := putF X307 hx hZ hown (host := "") (Or.inl (hw _ (List.mem_of_getElem? (i := 149) rfl))) Via.refl e307 c306 c308 (Or.inl (hw _ (List.mem_of_getElem? (i := 150) rfl))) (hw _ (List.mem_of_getElem? (i := 121) rfl)) (ty := .int) (by decide) rfl rfl (g := (mkF m 40 #[.val (.ref xb), .val (.ref xs), .val (.int (Int32.ofNat (ds).length))] [(.int (Int32.ofNat (cs ++ ds).length)), (.ref xb)])) rfl rfl (hb hby d_jdk_68_method_22_code_40)
  have N309 := Fr.snoc X309 N305 q12
  have F309 : Fld Z h309 xb "java/lang/AbstractStringBuilder" "count" "I" (.int (Int32.ofNat (cs ++ ds).length)) := c306.same W309
  have c310 : Fld Z h309 xb "java/lang/AbstractStringBuilder" "value" "[B" (.ref va) := ((q8.keep K305 (ninS q14 nin0)).other W309 (Or.inr (slot_ne (Or.inl (hw _ (List.mem_of_getElem? (i := 135) rfl))) (Or.inl (hw _ (List.mem_of_getElem? (i := 150) rfl))) (by decide) (t := (.array .byte)) (t' := .int) (by decide) (by decide))))
  have c311 : Fld Z h309 xb "java/lang/AbstractStringBuilder" "coder" "B" (.int (0 : Int32)) := ((q9.keep K305 (ninS q14 nin0)).other W309 (Or.inr (slot_ne (Or.inl (hw _ (List.mem_of_getElem? (i := 137) rfl))) (Or.inl (hw _ (List.mem_of_getElem? (i := 150) rfl))) (by decide) (t := .byte) (t' := .int) (by decide) (by decide))))
  have c312 : Arv Z h309 va ka .byte (16 : Int32) (own_bv (cs ++ ds)) (.int (0 : Int32)) := (f305_0.other W309 (Ne.symm q14))
  obtain ⟨fs, hr, hrun, hended, hW, hsame⟩ := X309.leave (v := some (.ref xb)) (fun h => by rw [Bd.returns] at h; cases h)
  refine ⟨_, _, pre0 _ ?_, hrun, hended, _, _, rfl, ?_, ⟨_, rfl⟩, hW, hsame.mono (by decide) (by decide)⟩
  · refine XS.aloadN X0.here hx rfl (hb hby d_jdk_68_method_22_code_0) rfl rfl ?_
    show Steps p.tables e below (s₁.setTop (mkF m 1 #[.val (.ref xb), .val (.ref xs), .unset] [(.ref xs)])) _
    refine XS.ifnonnullYes X0.here hx rfl (pc0 := 1) (pc' := 9) rfl (hb hby d_jdk_68_method_22_code_1) rfl (by decide) (by decide) ?_
    show Steps p.tables e below (s₁.setTop (mkF m 9 #[.val (.ref xb), .val (.ref xs), .unset] [])) _
    refine XS.aloadN X0.here hx rfl (hb hby d_jdk_68_method_22_code_9) rfl rfl ?_
    show Steps p.tables e below (s₁.setTop (mkF m 10 #[.val (.ref xb), .val (.ref xs), .unset] [(.ref xs)])) _
    refine st301.trans ?_
    show Steps p.tables e below (T301.setTop (mkF m 13 #[.val (.ref xb), .val (.ref xs), .unset] [(.int (Int32.ofNat (ds).length))])) _
    refine XS.istoreN X301.here hx rfl (hb hby d_jdk_68_method_22_code_13) rfl (l' := #[.val (.ref xb), .val (.ref xs), .val (.int (Int32.ofNat (ds).length))]) rfl ?_
    show Steps p.tables e below (T301.setTop (mkF m 14 #[.val (.ref xb), .val (.ref xs), .val (.int (Int32.ofNat (ds).length))] [])) _
    refine XS.aloadN X301.here hx rfl (hb hby d_jdk_68_method_22_code_14) rfl rfl ?_
    show Steps p.tables e below (T301.setTop (mkF m 15 #[.val (.ref xb), .val (.ref xs), .val (.int (Int32.ofNat (ds).length))] [(.ref xb)])) _
    refine XS.aloadN X301.here hx rfl (hb hby d_jdk_68_method_22_code_15) rfl rfl ?_
    show Steps p.tables e below (T301.setTop (mkF m 16 #[.val (.ref xb), .val (.ref xs), .val (.int (Int32.ofNat (ds).length))] [(.ref xb), (.ref xb)])) _
    refine st302 _ ?_
    show Steps p.tables e below (T302.setTop (mkF m 19 #[.val (.ref xb), .val (.ref xs), .val (.int (Int32.ofNat (ds).length))] [(.int (Int32.ofNat cs.length)), (.ref xb)])) _
    refine XS.iloadN X302.here hx rfl (hb hby d_jdk_68_method_22_code_19) rfl ?_
    show Steps p.tables e below (T302.setTop (mkF m 20 #[.val (.ref xb), .val (.ref xs), .val (.int (Int32.ofNat (ds).length))] [(.int (Int32.ofNat (ds).length)), (.int (Int32.ofNat cs.length)), (.ref xb)])) _
    refine XS.iadd X302.here hx rfl (hb hby d_jdk_68_method_22_code_20) rfl ?_
    show Steps p.tables e below (T302.setTop (mkF m 21 #[.val (.ref xb), .val (.ref xs), .val (.int (Int32.ofNat (ds).length))] [(.int ((Int32.ofNat cs.length) + (Int32.ofNat (ds).length))), (.ref xb)])) _
    rw [own_addn]
    show Steps p.tables e below (T302.setTop (mkF m 21 #[.val (.ref xb), .val (.ref xs), .val (.int (Int32.ofNat (ds).length))] [(.int (Int32.ofNat (cs.length + ds.length))), (.ref xb)])) _
    refine st303.trans ?_
    show Steps p.tables e below (T303.setTop (mkF m 24 #[.val (.ref xb), .val (.ref xs), .val (.int (Int32.ofNat (ds).length))] [])) _
    refine XS.aloadN X303.here hx rfl (hb hby d_jdk_68_method_22_code_24) rfl rfl ?_
    show Steps p.tables e below (T303.setTop (mkF m 25 #[.val (.ref xb), .val (.ref xs), .val (.int (Int32.ofNat (ds).length))] [(.ref xb)])) _
    refine XS.aloadN X303.here hx rfl (hb hby d_jdk_68_method_22_code_25) rfl rfl ?_
    show Steps p.tables e below (T303.setTop (mkF m 26 #[.val (.ref xb), .val (.ref xs), .val (.int (Int32.ofNat (ds).length))] [(.ref xb), (.ref xb)])) _
    refine st304 _ ?_
    show Steps p.tables e below (T304.setTop (mkF m 29 #[.val (.ref xb), .val (.ref xs), .val (.int (Int32.ofNat (ds).length))] [(.int (Int32.ofNat cs.length)), (.ref xb)])) _
    refine XS.aloadN X304.here hx rfl (hb hby d_jdk_68_method_22_code_29) rfl rfl ?_
    show Steps p.tables e below (T304.setTop (mkF m 30 #[.val (.ref xb), .val (.ref xs), .val (.int (Int32.ofNat (ds).length))] [(.ref xs), (.int (Int32.ofNat cs.length)), (.ref xb)])) _
    refine st305.trans ?_
    show Steps p.tables e below (T305.setTop (mkF m 33 #[.val (.ref xb), .val (.ref xs), .val (.int (Int32.ofNat (ds).length))] [])) _
    refine XS.aloadN X305.here hx rfl (hb hby d_jdk_68_method_22_code_33) rfl rfl ?_
    show Steps p.tables e below (T305.setTop (mkF m 34 #[.val (.ref xb), .val (.ref xs), .val (.int (Int32.ofNat (ds).length))] [(.ref xb)])) _
    refine XS.dup X305.here hx rfl (hb hby d_jdk_68_method_22_code_34) rfl rfl ?_
    show Steps p.tables e below (T305.setTop (mkF m 35 #[.val (.ref xb), .val (.ref xs), .val (.int (Int32.ofNat (ds).length))] [(.ref xb), (.ref xb)])) _
    refine st307 _ ?_
    show Steps p.tables e below (T307.setTop (mkF m 38 #[.val (.ref xb), .val (.ref xs), .val (.int (Int32.ofNat (ds).length))] [(.int (Int32.ofNat cs.length)), (.ref xb)])) _
    refine XS.iloadN X307.here hx rfl (hb hby d_jdk_68_method_22_code_38) rfl ?_
    show Steps p.tables e below (T307.setTop (mkF m 39 #[.val (.ref xb), .val (.ref xs), .val (.int (Int32.ofNat (ds).length))] [(.int (Int32.ofNat (ds).length)), (.int (Int32.ofNat cs.length)), (.ref xb)])) _
    refine XS.iadd X307.here hx rfl (hb hby d_jdk_68_method_22_code_39) rfl ?_
    show Steps p.tables e below (T307.setTop (mkF m 40 #[.val (.ref xb), .val (.ref xs), .val (.int (Int32.ofNat (ds).length))] [(.int ((Int32.ofNat cs.length) + (Int32.ofNat (ds).length))), (.ref xb)])) _
    rw [own_addn, ← List.length_append]
    show Steps p.tables e below (T307.setTop (mkF m 40 #[.val (.ref xb), .val (.ref xs), .val (.int (Int32.ofNat (ds).length))] [(.int (Int32.ofNat (cs ++ ds).length)), (.ref xb)])) _
    refine st309 _ ?_
    show Steps p.tables e below (T309.setTop (mkF m 43 #[.val (.ref xb), .val (.ref xs), .val (.int (Int32.ofNat (ds).length))] [])) _
    refine XS.aloadN X309.here hx rfl (hb hby d_jdk_68_method_22_code_43) rfl rfl ?_
    show Steps p.tables e below (T309.setTop (mkF m 44 #[.val (.ref xb), .val (.ref xs), .val (.int (Int32.ofNat (ds).length))] [(.ref xb)])) _
    jvm_step X309.here [X309.here.top, hx, (hb hby d_jdk_68_method_22_code_44), X309.method', Bd.returns, Value.isRef, FieldType.isReference]
    first | (intro acts; rw [hr _ acts rfl rfl rfl]) | rw [hr _ _ rfl rfl rfl]
    exact Steps.refl _
  · show Q_aappS Z xb xs t1 k1 ds va ka cs G h0 n0 _ T309.heap _
    rw [e309]
    exact ⟨rfl, N309, (((Keep.refl h0 ([xb, va] : List Addr)).trans K305 (allS (Or.inl (by simp)) all0)).wr W309 (Or.inl (by simp))), c310, c311, F309, c312⟩
theorem d_jdk_67_method_7_code_0 : decode jdk_67_method_7_code 0 = .ok (.aload_n 0, 1) := by decide +kernel
theorem d_jdk_67_method_7_code_1 : decode jdk_67_method_7_code 1 = .ok (.aload_n 1, 1) := by decide +kernel
theorem d_jdk_67_method_7_code_2 : decode jdk_67_method_7_code 2 = .ok (.invokespecial 29, 3) := by decide +kernel
theorem pd_6 : parseMethodDescriptor "(Ljava/lang/String;)Ljava/lang/AbstractStringBuilder;" = some ⟨[(.object "java/lang/String")], some (.object "java/lang/AbstractStringBuilder")⟩ := by decide +kernel
theorem d_jdk_67_method_7_code_5 : decode jdk_67_method_7_code 5 = .ok (.pop, 1) := by decide +kernel
theorem d_jdk_67_method_7_code_6 : decode jdk_67_method_7_code 6 = .ok (.aload_n 0, 1) := by decide +kernel
theorem d_jdk_67_method_7_code_7 : decode jdk_67_method_7_code 7 = .ok (.areturn, 1) := by decide +kernel
def Q_appS (Z : State) (xb : Addr) (xs : Addr) (t1 : Addr) (k1 : ClassId) (ds : List Int32) (va : Addr) (ka : ClassId) (cs : List Int32) (G : Int32) (h0 : Heap) (n0 : Nat) (v : Option Value) (h : Heap) (L : List Loc) : Prop := (v = some (.ref xb)) ∧ (Fr n0 L) ∧ (Keep h0 h ([xb, va] : List Addr)) ∧ (Fld Z h xb "java/lang/AbstractStringBuilder" "value" "[B" (.ref va)) ∧ (Fld Z h xb "java/lang/AbstractStringBuilder" "coder" "B" (.int (0 : Int32))) ∧ (Fld Z h xb "java/lang/AbstractStringBuilder" "count" "I" (.int (Int32.ofNat (cs ++ ds).length))) ∧ (Arv Z h va ka .byte (16 : Int32) (own_bv (cs ++ ds)) (.int (0 : Int32)))
set_option maxRecDepth 65536 in
set_option maxHeartbeats 40000000 in
theorem rm_appS (l : Launch) (Z : State) (a0 : Array Value) (hw : ∀ d ∈ tables_1, d.before a0 Z = true) (ws : List Jvm.Cond) (xb : Addr) (xs : Addr) (t1 : Addr) (k1 : ClassId) (ds : List Int32) (va : Addr) (ka : ClassId) (cs : List Int32) (G : Int32) (h0 : Heap) (n0 : Nat) (Z0 : n0 ≤ h0.size) (q0 : Sta Z Z.heap "java/lang/String" "COMPACT_STRINGS" "Z" (.int G)) (hCS : ¬ (G = (0 : Int32))) (q2 : Old Z n0 h0) (q3 : Exa Z h0 xs "java/lang/String") (q4 : Fld Z h0 xs "java/lang/String" "value" "[B" (.ref t1)) (q5 : Fld Z h0 xs "java/lang/String" "coder" "B" (.int (0 : Int32))) (q6 : Arv Z h0 t1 k1 .byte (Int32.ofNat ds.length) (own_bs ds) (.int 0)) (q7 : Exa Z h0 xb "java/lang/StringBuilder") (q8 : Fld Z h0 xb "java/lang/AbstractStringBuilder" "value" "[B" (.ref va)) (q9 : Fld Z h0 xb "java/lang/AbstractStringBuilder" "coder" "B" (.int (0 : Int32))) (q10 : Fld Z h0 xb "java/lang/AbstractStringBuilder" "count" "I" (.int (Int32.ofNat cs.length))) (q11 : Arv Z h0 va ka .byte (16 : Int32) (own_bv cs) (.int (0 : Int32))) (q12 : n0 ≤ xb) (q13 : n0 ≤ va) (q14 : xb ≠ va) (q15 : t1 ≠ va) (q16 : xs ≠ xb) (q17 : xs ≠ va) (q18 : t1 ≠ xb) (h16 : cs.length + ds.length ≤ 16) (hcd1 : StrChars.Road.CodA ds 0 (Int32.ofNat ds.length) (own_bs ds)) (hbd1 : ∀ c ∈ ds, ¬ c < 0 ∧ ¬ (65535 : Int32) < c) :
    MetFree l (⟨"java/lang/StringBuilder", "append", "(Ljava/lang/String;)Ljava/lang/StringBuilder;"⟩ : MethodName) (head1 (Jvm.Cond.code (⟨"java/lang/StringBuilder", "append", "(Ljava/lang/String;)Ljava/lang/StringBuilder;"⟩ : MethodName) jdk_67_method_7_code 2 (some (.object "java/lang/StringBuilder")) :: ws) ({ frames := 4, cells := 0, slots := 0, locals := 61 } : Room)) (fun a₁ U₁ => a₁ = #[(.ref xb), (.ref xs)] ∧ Z.Warmed39 U₁.vm ∧ U₁.heap = h0) (fun _ _ _ _ _ => True) (fun _ U₁ o₁ U₂ => ∃ v₁ L₁, o₁ = .returned v₁ ∧ Q_appS Z xb xs t1 k1 ds va ka cs G h0 n0 v₁ U₂.heap L₁ ∧ FrameEnd U₁ o₁ U₂ L₁ ({ frames := 4, cells := 0, slots := 0, locals := 61 } : Room).cells ({ frames := 4, cells := 0, slots := 0, locals := 61 } : Room).slots) := by
  refine MetFree.of_bodySF (plainFor_of_name pn_3) hisR ?_
  intro p e s m args below meth c s₁ Bd hml0 hP hK
  obtain ⟨rfl, hZ, hh⟩ := hP
  have hx := Bd.exec
  have hby := Bd.bytes
  have hml : c.maxLocals = 2 := hml0
  have hown : s.vm.findClass "java/lang/StringBuilder" = some m.cls := findClass_of_methodNamed Bd.named
  have hnm := (name_of_methodNamed Bd.named Bd.method).1
  have X0 : Stand p l e ({ frames := 4, cells := 0, slots := 0, locals := 61 } : Room) s m #[(.ref xb), (.ref xs)] below meth c s₁ [] 0 0 := Stand.of_body Bd
  have e0 : s₁.heap = h0 := by rw [← hh, Bd.state]; rfl
  have N0 := Fr.nil n0
  have pre0 : ∀ t, Steps p.tables e below (s₁.setTop (mkF m 0 #[.val (.ref xb), .val (.ref xs)] [])) t → Steps p.tables e below (s₁.setTop (entryFrame m #[(.ref xb), (.ref xs)] 2)) t := fun t k => castTop (ef_5 m xb xs) k
  obtain ⟨_, _, ⟨T301, L301, k301, n301⟩, -, X301, ⟨Lc301, hQ301, l301, y301, z301⟩, st301⟩ := superBack X0 hx hZ (K := "java/lang/StringBuilder") (y := (⟨"java/lang/AbstractStringBuilder", "append", "(Ljava/lang/String;)Ljava/lang/AbstractStringBuilder;"⟩ : MethodName)) hown (hw _ (List.mem_of_getElem? (i := 143) rfl)) (own_same (z := (⟨"java/lang/AbstractStringBuilder", "ensureCapacityInternal", "(I)V"⟩ : MethodName)) (by decide) rfl (hw _ (List.mem_of_getElem? (i := 154) rfl)) (hw _ (List.mem_of_getElem? (i := 144) rfl))) (hw _ (List.mem_of_getElem? (i := 144) rfl)) (hw _ (List.mem_of_getElem? (i := 145) rfl)) (by decide) (backOf (W := 0) (rm_aappS l Z a0 hw [] xb xs t1 k1 ds va ka cs G h0 n0 Z0 q0 hCS q2 q3 q4 q5 q6 q7 q8 q9 q10 q11 q12 q13 q14 q15 q16 q17 q18 h16 hcd1 hbd1) hZ (hw _ (List.mem_of_getElem? (i := 147) rfl)) (hw _ (List.mem_of_getElem? (i := 130) rfl)) (by decide) (by decide)) e0 (Ins.self q7) (g := (mkF m 2 #[.val (.ref xb), .val (.ref xs)] [(.ref xs), (.ref xb)])) rfl (by rw [hml]; rfl) (hw _ (List.mem_of_getElem? (i := 147) rfl)) (argsL := [(.ref xs)]) (rest := []) (lenOf pd_6 rfl) rfl (by show 2 * 0 + _ ≤ _; exact Nat.le_of_eq rfl) (hb hby d_jdk_67_method_7_code_2) (fun _ _ => ⟨rfl, e0, (by decide : 0 + 0 ≤ _), (by decide : 0 + 0 ≤ _)⟩)
  dsimp only [Pt.U, Pt.locs, Pt.cells, Pt.slots] at X301 l301 y301 z301 st301 hQ301
  subst l301 y301 z301
  obtain ⟨rfl, Nq301, K301, f301_0, f301_1, f301_2, f301_3⟩ := hQ301
  have N301 := Fr.app N0 Nq301
  obtain ⟨fs, hr, hrun, hended, hW, hsame⟩ := X301.leave (v := some (.ref xb)) (fun h => by rw [Bd.returns] at h; cases h)
  refine ⟨_, _, pre0 _ ?_, hrun, hended, _, _, rfl, ?_, ⟨_, rfl⟩, hW, hsame.mono (by decide) (by decide)⟩
  · refine XS.aloadN X0.here hx rfl (hb hby d_jdk_67_method_7_code_0) rfl rfl ?_
    show Steps p.tables e below (s₁.setTop (mkF m 1 #[.val (.ref xb), .val (.ref xs)] [(.ref xb)])) _
    refine XS.aloadN X0.here hx rfl (hb hby d_jdk_67_method_7_code_1) rfl rfl ?_
    show Steps p.tables e below (s₁.setTop (mkF m 2 #[.val (.ref xb), .val (.ref xs)] [(.ref xs), (.ref xb)])) _
    refine st301.trans ?_
    show Steps p.tables e below (T301.setTop (mkF m 5 #[.val (.ref xb), .val (.ref xs)] [(.ref xb)])) _
    refine XS.pop X301.here hx rfl (hb hby d_jdk_67_method_7_code_5) rfl rfl ?_
    show Steps p.tables e below (T301.setTop (mkF m 6 #[.val (.ref xb), .val (.ref xs)] [])) _
    refine XS.aloadN X301.here hx rfl (hb hby d_jdk_67_method_7_code_6) rfl rfl ?_
    show Steps p.tables e below (T301.setTop (mkF m 7 #[.val (.ref xb), .val (.ref xs)] [(.ref xb)])) _
    jvm_step X301.here [X301.here.top, hx, (hb hby d_jdk_67_method_7_code_7), X301.method', Bd.returns, Value.isRef, FieldType.isReference]
    first | (intro acts; rw [hr _ acts rfl rfl rfl]) | rw [hr _ _ rfl rfl rfl]
    exact Steps.refl _
  · show Q_appS Z xb xs t1 k1 ds va ka cs G h0 n0 _ T301.heap _
    exact ⟨rfl, N301, ((Keep.refl h0 ([xb, va] : List Addr)).trans K301 (allS (Or.inl (by simp)) (allS (Or.inl (by simp)) all0))), f301_0, f301_1, f301_2, f301_3⟩
theorem d_jdk_68_method_31_code_0 : decode jdk_68_method_31_code 0 = .ok (.aload_n 0, 1) := by decide +kernel
theorem d_jdk_68_method_31_code_1 : decode jdk_68_method_31_code 1 = .ok (.aload_n 0, 1) := by decide +kernel
theorem d_jdk_68_method_31_code_2 : decode jdk_68_method_31_code 2 = .ok (.getfield 79, 3) := by decide +kernel
theorem d_jdk_68_method_31_code_5 : decode jdk_68_method_31_code 5 = .ok (.iconst 1, 1) := by decide +kernel
theorem d_jdk_68_method_31_code_6 : decode jdk_68_method_31_code 6 = .ok (.iadd, 1) := by decide +kernel
theorem d_jdk_68_method_31_code_7 : decode jdk_68_method_31_code 7 = .ok (.invokevirtual 100, 3) := by decide +kernel
theorem d_jdk_68_method_31_code_10 : decode jdk_68_method_31_code 10 = .ok (.aload_n 0, 1) := by decide +kernel
theorem d_jdk_68_method_31_code_11 : decode jdk_68_method_31_code 11 = .ok (.invokevirtual 83, 3) := by decide +kernel
theorem pd_7 : parseMethodDescriptor "()Z" = some ⟨[], some .boolean⟩ := by decide +kernel
theorem d_jdk_68_method_31_code_14 : decode jdk_68_method_31_code 14 = .ok (.ifCond .eq 31, 3) := by decide +kernel
theorem d_jdk_68_method_31_code_17 : decode jdk_68_method_31_code 17 = .ok (.iload_n 1, 1) := by decide +kernel
theorem d_jdk_68_method_31_code_18 : decode jdk_68_method_31_code 18 = .ok (.invokestatic 191, 3) := by decide +kernel
theorem pd_8 : parseMethodDescriptor "(C)Z" = some ⟨[.char], some .boolean⟩ := by decide +kernel
theorem d_jdk_68_method_31_code_21 : decode jdk_68_method_31_code 21 = .ok (.ifCond .eq 24, 3) := by decide +kernel
theorem d_jdk_68_method_31_code_24 : decode jdk_68_method_31_code 24 = .ok (.aload_n 0, 1) := by decide +kernel
theorem d_jdk_68_method_31_code_25 : decode jdk_68_method_31_code 25 = .ok (.getfield 15, 3) := by decide +kernel
theorem d_jdk_68_method_31_code_28 : decode jdk_68_method_31_code 28 = .ok (.aload_n 0, 1) := by decide +kernel
theorem d_jdk_68_method_31_code_29 : decode jdk_68_method_31_code 29 = .ok (.dup, 1) := by decide +kernel
theorem d_jdk_68_method_31_code_30 : decode jdk_68_method_31_code 30 = .ok (.getfield 79, 3) := by decide +kernel
theorem d_jdk_68_method_31_code_33 : decode jdk_68_method_31_code 33 = .ok (.dup_x1, 1) := by decide +kernel
theorem d_jdk_68_method_31_code_34 : decode jdk_68_method_31_code 34 = .ok (.iconst 1, 1) := by decide +kernel
theorem d_jdk_68_method_31_code_35 : decode jdk_68_method_31_code 35 = .ok (.iadd, 1) := by decide +kernel
theorem d_jdk_68_method_31_code_36 : decode jdk_68_method_31_code 36 = .ok (.putfield 79, 3) := by decide +kernel
theorem d_jdk_68_method_31_code_39 : decode jdk_68_method_31_code 39 = .ok (.iload_n 1, 1) := by decide +kernel
theorem d_jdk_68_method_31_code_40 : decode jdk_68_method_31_code 40 = .ok (.i2b, 1) := by decide +kernel
theorem d_jdk_68_method_31_code_41 : decode jdk_68_method_31_code 41 = .ok (.bastore, 1) := by decide +kernel
theorem d_jdk_68_method_31_code_42 : decode jdk_68_method_31_code 42 = .ok (.goto 33, 3) := by decide +kernel
theorem d_jdk_68_method_31_code_75 : decode jdk_68_method_31_code 75 = .ok (.aload_n 0, 1) := by decide +kernel
theorem d_jdk_68_method_31_code_76 : decode jdk_68_method_31_code 76 = .ok (.areturn, 1) := by decide +kernel
def Q_aappC (Z : State) (xb : Addr) (xc : Int32) (va : Addr) (ka : ClassId) (cs : List Int32) (G : Int32) (h0 : Heap) (n0 : Nat) (v : Option Value) (h : Heap) (L : List Loc) : Prop := (v = some (.ref xb)) ∧ (Fr n0 L) ∧ (Keep h0 h ([xb, va] : List Addr)) ∧ (Fld Z h xb "java/lang/AbstractStringBuilder" "value" "[B" (.ref va)) ∧ (Fld Z h xb "java/lang/AbstractStringBuilder" "coder" "B" (.int (0 : Int32))) ∧ (Fld Z h xb "java/lang/AbstractStringBuilder" "count" "I" (.int (Int32.ofNat (cs ++ [xc]).length))) ∧ (Arv Z h va ka .byte (16 : Int32) (own_bv (cs ++ [xc])) (.int (0 : Int32)))
set_option maxRecDepth 65536 in
set_option maxHeartbeats 40000000 in
theorem rm_aappC (l : Launch) (Z : State) (a0 : Array Value) (hw : ∀ d ∈ tables_1, d.before a0 Z = true) (ws : List Jvm.Cond) (xb : Addr) (xc : Int32) (va : Addr) (ka : ClassId) (cs : List Int32) (G : Int32) (h0 : Heap) (n0 : Nat) (Z0 : n0 ≤ h0.size) (q0 : Sta Z Z.heap "java/lang/String" "COMPACT_STRINGS" "Z" (.int G)) (hCS : ¬ (G = (0 : Int32))) (q2 : Old Z n0 h0) (q3 : Exa Z h0 xb "java/lang/StringBuilder") (q4 : Fld Z h0 xb "java/lang/AbstractStringBuilder" "value" "[B" (.ref va)) (q5 : Fld Z h0 xb "java/lang/AbstractStringBuilder" "coder" "B" (.int (0 : Int32))) (q6 : Fld Z h0 xb "java/lang/AbstractStringBuilder" "count" "I" (.int (Int32.ofNat cs.length))) (q7 : Arv Z h0 va ka .byte (16 : Int32) (own_bv cs) (.int (0 : Int32))) (q8 : n0 ≤ xb) (q9 : n0 ≤ va) (q10 : xb ≠ va) (h255 : ¬ (255 : Int32) < xc) (h16 : cs.length + 1 ≤ 16) :
    MetFree l (⟨"java/lang/AbstractStringBuilder", "append", "(C)Ljava/lang/AbstractStringBuilder;"⟩ : MethodName) (head1 (Jvm.Cond.code (⟨"java/lang/AbstractStringBuilder", "append", "(C)Ljava/lang/AbstractStringBuilder;"⟩ : MethodName) jdk_68_method_31_code 2 (some (.object "java/lang/AbstractStringBuilder")) :: ws) ({ frames := 1, cells := 0, slots := 0, locals := 14 } : Room)) (fun a₁ U₁ => a₁ = #[(.ref xb), (.int xc)] ∧ Z.Warmed39 U₁.vm ∧ U₁.heap = h0) (fun _ _ _ _ _ => True) (fun _ U₁ o₁ U₂ => ∃ v₁ L₁, o₁ = .returned v₁ ∧ Q_aappC Z xb xc va ka cs G h0 n0 v₁ U₂.heap L₁ ∧ FrameEnd U₁ o₁ U₂ L₁ ({ frames := 1, cells := 0, slots := 0, locals := 14 } : Room).cells ({ frames := 1, cells := 0, slots := 0, locals := 14 } : Room).slots) := by
  refine MetFree.of_bodySF (plainFor_of_name pn_2) hisR ?_
  intro p e s m args below meth c s₁ Bd hml0 hP hK
  obtain ⟨rfl, hZ, hh⟩ := hP
  have hx := Bd.exec
  have hby := Bd.bytes
  have hml : c.maxLocals = 2 := hml0
  have hown : s.vm.findClass "java/lang/AbstractStringBuilder" = some m.cls := findClass_of_methodNamed Bd.named
  have hnm := (name_of_methodNamed Bd.named Bd.method).1
  have X0 : Stand p l e ({ frames := 1, cells := 0, slots := 0, locals := 14 } : Room) s m #[(.ref xb), (.int xc)] below meth c s₁ [] 0 0 := Stand.of_body Bd
  have e0 : s₁.heap = h0 := by rw [← hh, Bd.state]; rfl
  have N0 := Fr.nil n0
  have pre0 : ∀ t, Steps p.tables e below (s₁.setTop (mkF m 0 #[.val (.ref xb), .val (.int xc)] [])) t → Steps p.tables e below (s₁.setTop (entryFrame m #[(.ref xb), (.int xc)] 2)) t := fun t k => castTop (ef_2 m xb xc) k
  obtain ⟨T301, X301, e301, st301⟩ := getF X0 hx hZ hown (host := "") (Or.inl (hw _ (List.mem_of_getElem? (i := 149) rfl))) Via.refl e0 q6 (g := (mkF m 2 #[.val (.ref xb), .val (.int xc)] [(.ref xb), (.ref xb)])) rfl rfl (hb hby d_jdk_68_method_31_code_2)
  obtain ⟨cq302, q302_, q302_'⟩ := q3.cell
  obtain ⟨_, _, ⟨T302, L302, k302, n302⟩, -, X302, ⟨Lc302, hQ302, l302, y302, z302⟩, st302⟩ := X301.privateBack hx (y := (⟨"java/lang/AbstractStringBuilder", "ensureCapacityInternal", "(I)V"⟩ : MethodName)) hown (mvT hZ (hw _ (List.mem_of_getElem? (i := 151) rfl))) (mvT hZ (hw _ (List.mem_of_getElem? (i := 152) rfl))) (own_selpriv (by decide) (mvT hZ (hw _ (List.mem_of_getElem? (i := 154) rfl))) (mvP hZ (hw _ (List.mem_of_getElem? (i := 153) rfl))) (mvT hZ (hw _ (List.mem_of_getElem? (i := 152) rfl)))) (Cond.privateMethod_at (mvP hZ (hw _ (List.mem_of_getElem? (i := 153) rfl)) (args := #[]))) (mvT hZ (hw _ (List.mem_of_getElem? (i := 155) rfl))) (by decide) (backOf (W := 0) (rm_ensC l Z a0 hw [] xb (Int32.ofNat (cs.length + 1)) va ka cs h0 n0 Z0 q4 q5 q7 (own_fit16 h16)) hZ (hw _ (List.mem_of_getElem? (i := 155) rfl)) (hw _ (List.mem_of_getElem? (i := 130) rfl)) (by decide) (by decide)) (g := (mkF m 7 #[.val (.ref xb), .val (.int xc)] [(.int (Int32.ofNat (cs.length + 1))), (.ref xb)])) rfl (by rw [hml]; rfl) (Steps.refl _) (a := xb) (by rw [e301]; exact q302_) q302_' (argsL := [(.int (Int32.ofNat (cs.length + 1)))]) (rest := []) (lenOf pd_1 rfl) rfl (by show 2 * 0 + _ ≤ _; exact Nat.le_of_eq rfl) (hb hby d_jdk_68_method_31_code_7) (fun _ _ => ⟨rfl, e301, (by decide : 0 + 0 ≤ _), (by decide : 0 + 0 ≤ _)⟩)
  dsimp only [Pt.U, Pt.locs, Pt.cells, Pt.slots] at X302 l302 y302 z302 st302 hQ302
  subst l302 y302 z302
  obtain ⟨rfl, Nq302, e302⟩ := hQ302
  have N302 := Fr.app N0 Nq302
  obtain ⟨cq303, kq303, q303a, q303b, q303c⟩ := isOf hZ e302 q3
  obtain ⟨_, _, ⟨T303, L303, k303, n303⟩, -, X303, ⟨Lc303, hQ303, l303, y303, z303⟩, st303⟩ := X302.virtualBack hx (y := (⟨"java/lang/AbstractStringBuilder", "isLatin1", "()Z"⟩ : MethodName)) (z := (⟨"java/lang/AbstractStringBuilder", "isLatin1", "()Z"⟩ : MethodName)) hown (mvT hZ (hw _ (List.mem_of_getElem? (i := 185) rfl))) (mvT hZ (hw _ (List.mem_of_getElem? (i := 186) rfl))) (notFace_of_selects (args := #[]) (mvT hZ (hw _ (List.mem_of_getElem? (i := 188) rfl)))) (mvT hZ (hw _ (List.mem_of_getElem? (i := 188) rfl))) (mvT hZ (hw _ (List.mem_of_getElem? (i := 187) rfl))) (by decide) (backOf (W := 0) (rm_bLat l Z a0 hw [] xb G h0 n0 Z0 q0 hCS q2 q5) hZ (hw _ (List.mem_of_getElem? (i := 189) rfl)) (hw _ (List.mem_of_getElem? (i := 130) rfl)) (by decide) (by decide)) q303a q303c (g := (mkF m 11 #[.val (.ref xb), .val (.int xc)] [(.ref xb)])) rfl (by rw [hml]; rfl) (Steps.refl _) (argsL := []) (rest := []) (lenOf pd_7 rfl) rfl (by show 2 * 0 + _ ≤ _; exact Nat.le_of_eq rfl) (hb hby d_jdk_68_method_31_code_11) (fun _ _ => ⟨rfl, e302, (by decide : 0 + 0 ≤ _), (by decide : 0 + 0 ≤ _)⟩)
  dsimp only [Pt.U, Pt.locs, Pt.cells, Pt.slots] at X303 l303 y303 z303 st303 hQ303
  subst l303 y303 z303
  obtain ⟨rfl, Nq303, e303⟩ := hQ303
  have N303 := Fr.app N302 Nq303
  obtain ⟨_, _, ⟨T304, L304, k304, n304⟩, -, X304, ⟨Lc304, hQ304, l304, y304, z304⟩, st304⟩ := Jvm.LawKit.callS X303 hx (y := (⟨"java/lang/StringLatin1", "canEncode", "(C)Z"⟩ : MethodName)) hown (mvT hZ (hw _ (List.mem_of_getElem? (i := 190) rfl))) (mvT hZ (hw _ (List.mem_of_getElem? (i := 191) rfl))) (mvT hZ (hw _ (List.mem_of_getElem? (i := 79) rfl))) (mvT hZ (hw _ (List.mem_of_getElem? (i := 192) rfl))) (by decide) (backOf (W := 0) (rm_canEnc l Z a0 hw [] xc h0 n0 Z0 h255) hZ (hw _ (List.mem_of_getElem? (i := 192) rfl)) (hw _ (List.mem_of_getElem? (i := 79) rfl)) (by decide) (by decide)) (g := (mkF m 18 #[.val (.ref xb), .val (.int xc)] [(.int xc)])) rfl (by rw [hml]; rfl) (argsL := [(.int xc)]) (rest := []) (lenOf pd_8 rfl) rfl (by show 2 * 0 + _ ≤ _; exact Nat.le_of_eq rfl) (hb hby d_jdk_68_method_31_code_18) (fun _ _ => ⟨rfl, e303, (by decide : 0 + 0 ≤ _), (by decide : 0 + 0 ≤ _)⟩)
  dsimp only [Pt.U, Pt.locs, Pt.cells, Pt.slots] at X304 l304 y304 z304 st304 hQ304
  subst l304 y304 z304
  obtain ⟨rfl, Nq304, e304⟩ := hQ304
  have N304 := Fr.app N303 Nq304
  obtain ⟨T305, X305, e305, st305⟩ := getF X304 hx hZ hown (host := "") (Or.inl (hw _ (List.mem_of_getElem? (i := 134) rfl))) Via.refl e304 q4 (g := (mkF m 25 #[.val (.ref xb), .val (.int xc)] [(.ref xb)])) rfl rfl (hb hby d_jdk_68_method_31_code_25)
  obtain ⟨T306, X306, e306, st306⟩ := getF X305 hx hZ hown (host := "") (Or.inl (hw _ (List.mem_of_getElem? (i := 149) rfl))) Via.refl e305 q6 (g := (mkF m 30 #[.val (.ref xb), .val (.int xc)] [(.ref xb), (.ref xb), (.ref va)])) rfl rfl (hb hby d_jdk_68_method_31_code_30)
  obtain ⟨T307, h307, X307, e307, W307, st307⟩ := putF X306 hx hZ hown (host := "") (Or.inl (hw _ (List.mem_of_getElem? (i := 149) rfl))) Via.refl e306 q6 q3 (Or.inl (hw _ (List.mem_of_getElem? (i := 150) rfl))) (hw _ (List.mem_of_getElem? (i := 121) rfl)) (ty := .int) (by decide) rfl rfl (g := (mkF m 36 #[.val (.ref xb), .val (.int xc)] [(.int (Int32.ofNat (cs ++ [xc]).length)), (.ref xb), (.int (Int32.ofNat cs.length)), (.ref va)])) rfl rfl (hb hby d_jdk_68_method_31_code_36)
  have N307 := Fr.snoc X307 N304 q8
  have F307 : Fld Z h307 xb "java/lang/AbstractStringBuilder" "count" "I" (.int (Int32.ofNat (cs ++ [xc]).length)) := q6.same W307
  have c308 : Arv Z h307 va ka .byte (16 : Int32) (own_bv cs) (.int (0 : Int32)) := (q7.other W307 (Ne.symm q10))
  obtain ⟨cl309, Ar309, qq309, S309, M309, Hh309, U309⟩ := id c308
  obtain ⟨T309, h309, X309, e309, W309, st309⟩ := stB X307 hx hZ e307 Ar309 (j := (Int32.ofNat cs.length)) (inb_of S309 (own_inb (n := 16) (by omega) (by omega))) (g := (mkF m 41 #[.val (.ref xb), .val (.int xc)] [(.int (xc.toInt8.toInt32)), (.int (Int32.ofNat cs.length)), (.ref va)])) rfl rfl (hb hby d_jdk_68_method_31_code_41)
  have N309 := Fr.snoc X309 N307 q9
  have V309 : Arv Z h309 va ka .byte (16 : Int32) ((own_bv cs).set cs.length (.int (nar .byte (xc.toInt8.toInt32)))) (.int (0 : Int32)) := Arv.set Ar309 qq309 S309 M309 Hh309 U309 (fits_nar_byte _) W309 cs.length (own_clamp (by omega)) (by rw [own_bvl (by omega)]; omega)
  have R310 : Arv Z h309 va ka .byte (16 : Int32) (own_bv (cs ++ [xc])) (.int (0 : Int32)) := by have q := V309; rw [own_push16 xc (by omega)] at q; exact q
  have c311 : Fld Z h309 xb "java/lang/AbstractStringBuilder" "value" "[B" (.ref va) := ((q4.other W307 (Or.inr (slot_ne (Or.inl (hw _ (List.mem_of_getElem? (i := 135) rfl))) (Or.inl (hw _ (List.mem_of_getElem? (i := 150) rfl))) (by decide) (t := (.array .byte)) (t' := .int) (by decide) (by decide)))).other W309 (Or.inl q10))
  have c312 : Fld Z h309 xb "java/lang/AbstractStringBuilder" "coder" "B" (.int (0 : Int32)) := ((q5.other W307 (Or.inr (slot_ne (Or.inl (hw _ (List.mem_of_getElem? (i := 137) rfl))) (Or.inl (hw _ (List.mem_of_getElem? (i := 150) rfl))) (by decide) (t := .byte) (t' := .int) (by decide) (by decide)))).other W309 (Or.inl q10))
  have c313 : Fld Z h309 xb "java/lang/AbstractStringBuilder" "count" "I" (.int (Int32.ofNat (cs ++ [xc]).length)) := (F307.other W309 (Or.inl q10))
  obtain ⟨fs, hr, hrun, hended, hW, hsame⟩ := X309.leave (v := some (.ref xb)) (fun h => by rw [Bd.returns] at h; cases h)
  refine ⟨_, _, pre0 _ ?_, hrun, hended, _, _, rfl, ?_, ⟨_, rfl⟩, hW, hsame.mono (by decide) (by decide)⟩
  · refine XS.aloadN X0.here hx rfl (hb hby d_jdk_68_method_31_code_0) rfl rfl ?_
    show Steps p.tables e below (s₁.setTop (mkF m 1 #[.val (.ref xb), .val (.int xc)] [(.ref xb)])) _
    refine XS.aloadN X0.here hx rfl (hb hby d_jdk_68_method_31_code_1) rfl rfl ?_
    show Steps p.tables e below (s₁.setTop (mkF m 2 #[.val (.ref xb), .val (.int xc)] [(.ref xb), (.ref xb)])) _
    refine st301 _ ?_
    show Steps p.tables e below (T301.setTop (mkF m 5 #[.val (.ref xb), .val (.int xc)] [(.int (Int32.ofNat cs.length)), (.ref xb)])) _
    refine XS.iconst X301.here hx rfl (hb hby d_jdk_68_method_31_code_5) ?_
    show Steps p.tables e below (T301.setTop (mkF m 6 #[.val (.ref xb), .val (.int xc)] [(.int (1 : Int32)), (.int (Int32.ofNat cs.length)), (.ref xb)])) _
    refine XS.iadd X301.here hx rfl (hb hby d_jdk_68_method_31_code_6) rfl ?_
    show Steps p.tables e below (T301.setTop (mkF m 7 #[.val (.ref xb), .val (.int xc)] [(.int ((Int32.ofNat cs.length) + (1 : Int32))), (.ref xb)])) _
    rw [← inc_ofNat]
    show Steps p.tables e below (T301.setTop (mkF m 7 #[.val (.ref xb), .val (.int xc)] [(.int (Int32.ofNat (cs.length + 1))), (.ref xb)])) _
    refine st302.trans ?_
    show Steps p.tables e below (T302.setTop (mkF m 10 #[.val (.ref xb), .val (.int xc)] [])) _
    refine XS.aloadN X302.here hx rfl (hb hby d_jdk_68_method_31_code_10) rfl rfl ?_
    show Steps p.tables e below (T302.setTop (mkF m 11 #[.val (.ref xb), .val (.int xc)] [(.ref xb)])) _
    refine st303.trans ?_
    show Steps p.tables e below (T303.setTop (mkF m 14 #[.val (.ref xb), .val (.int xc)] [(.int (1 : Int32))])) _
    refine XS.ifNo X303.here hx rfl (hb hby d_jdk_68_method_31_code_14) rfl ((if0 _ _).trans (feq ((by decide) : ¬ ((1 : Int32) = (0 : Int32)))).1) ?_
    show Steps p.tables e below (T303.setTop (mkF m 17 #[.val (.ref xb), .val (.int xc)] [])) _
    refine XS.iloadN X303.here hx rfl (hb hby d_jdk_68_method_31_code_17) rfl ?_
    show Steps p.tables e below (T303.setTop (mkF m 18 #[.val (.ref xb), .val (.int xc)] [(.int xc)])) _
    refine st304 _ ?_
    show Steps p.tables e below (T304.setTop (mkF m 21 #[.val (.ref xb), .val (.int xc)] [(.int (1 : Int32))])) _
    refine XS.ifNo X304.here hx rfl (hb hby d_jdk_68_method_31_code_21) rfl ((if0 _ _).trans (feq ((by decide) : ¬ ((1 : Int32) = (0 : Int32)))).1) ?_
    show Steps p.tables e below (T304.setTop (mkF m 24 #[.val (.ref xb), .val (.int xc)] [])) _
    refine XS.aloadN X304.here hx rfl (hb hby d_jdk_68_method_31_code_24) rfl rfl ?_
    show Steps p.tables e below (T304.setTop (mkF m 25 #[.val (.ref xb), .val (.int xc)] [(.ref xb)])) _
    refine st305 _ ?_
    show Steps p.tables e below (T305.setTop (mkF m 28 #[.val (.ref xb), .val (.int xc)] [(.ref va)])) _
    refine XS.aloadN X305.here hx rfl (hb hby d_jdk_68_method_31_code_28) rfl rfl ?_
    show Steps p.tables e below (T305.setTop (mkF m 29 #[.val (.ref xb), .val (.int xc)] [(.ref xb), (.ref va)])) _
    refine XS.dup X305.here hx rfl (hb hby d_jdk_68_method_31_code_29) rfl rfl ?_
    show Steps p.tables e below (T305.setTop (mkF m 30 #[.val (.ref xb), .val (.int xc)] [(.ref xb), (.ref xb), (.ref va)])) _
    refine st306 _ ?_
    show Steps p.tables e below (T306.setTop (mkF m 33 #[.val (.ref xb), .val (.int xc)] [(.int (Int32.ofNat cs.length)), (.ref xb), (.ref va)])) _
    refine XS.dupX1 X306.here hx rfl (hb hby d_jdk_68_method_31_code_33) rfl rfl rfl ?_
    show Steps p.tables e below (T306.setTop (mkF m 34 #[.val (.ref xb), .val (.int xc)] [(.int (Int32.ofNat cs.length)), (.ref xb), (.int (Int32.ofNat cs.length)), (.ref va)])) _
    refine XS.iconst X306.here hx rfl (hb hby d_jdk_68_method_31_code_34) ?_
    show Steps p.tables e below (T306.setTop (mkF m 35 #[.val (.ref xb), .val (.int xc)] [(.int (1 : Int32)), (.int (Int32.ofNat cs.length)), (.ref xb), (.int (Int32.ofNat cs.length)), (.ref va)])) _
    refine XS.iadd X306.here hx rfl (hb hby d_jdk_68_method_31_code_35) rfl ?_
    show Steps p.tables e below (T306.setTop (mkF m 36 #[.val (.ref xb), .val (.int xc)] [(.int ((Int32.ofNat cs.length) + (1 : Int32))), (.ref xb), (.int (Int32.ofNat cs.length)), (.ref va)])) _
    rw [show Int32.ofNat cs.length + (1 : Int32) = Int32.ofNat (cs ++ [xc]).length by rw [← inc_ofNat]; simp]
    show Steps p.tables e below (T306.setTop (mkF m 36 #[.val (.ref xb), .val (.int xc)] [(.int (Int32.ofNat (cs ++ [xc]).length)), (.ref xb), (.int (Int32.ofNat cs.length)), (.ref va)])) _
    refine st307 _ ?_
    show Steps p.tables e below (T307.setTop (mkF m 39 #[.val (.ref xb), .val (.int xc)] [(.int (Int32.ofNat cs.length)), (.ref va)])) _
    refine XS.iloadN X307.here hx rfl (hb hby d_jdk_68_method_31_code_39) rfl ?_
    show Steps p.tables e below (T307.setTop (mkF m 40 #[.val (.ref xb), .val (.int xc)] [(.int xc), (.int (Int32.ofNat cs.length)), (.ref va)])) _
    refine XS.i2b X307.here hx rfl (hb hby d_jdk_68_method_31_code_40) rfl ?_
    show Steps p.tables e below (T307.setTop (mkF m 41 #[.val (.ref xb), .val (.int xc)] [(.int (xc.toInt8.toInt32)), (.int (Int32.ofNat cs.length)), (.ref va)])) _
    refine st309 _ ?_
    show Steps p.tables e below (T309.setTop (mkF m 42 #[.val (.ref xb), .val (.int xc)] [])) _
    refine XS.goto X309.here hx rfl (pc0 := 42) (pc' := 75) rfl (hb hby d_jdk_68_method_31_code_42) (by decide) (by decide) ?_
    show Steps p.tables e below (T309.setTop (mkF m 75 #[.val (.ref xb), .val (.int xc)] [])) _
    refine XS.aloadN X309.here hx rfl (hb hby d_jdk_68_method_31_code_75) rfl rfl ?_
    show Steps p.tables e below (T309.setTop (mkF m 76 #[.val (.ref xb), .val (.int xc)] [(.ref xb)])) _
    jvm_step X309.here [X309.here.top, hx, (hb hby d_jdk_68_method_31_code_76), X309.method', Bd.returns, Value.isRef, FieldType.isReference]
    first | (intro acts; rw [hr _ acts rfl rfl rfl]) | rw [hr _ _ rfl rfl rfl]
    exact Steps.refl _
  · show Q_aappC Z xb xc va ka cs G h0 n0 _ T309.heap _
    rw [e309]
    exact ⟨rfl, N309, (((Keep.refl h0 ([xb, va] : List Addr)).wr W307 (Or.inl (by simp))).wr W309 (Or.inl (by simp))), c311, c312, c313, R310⟩
theorem d_jdk_67_method_14_code_0 : decode jdk_67_method_14_code 0 = .ok (.aload_n 0, 1) := by decide +kernel
theorem d_jdk_67_method_14_code_1 : decode jdk_67_method_14_code 1 = .ok (.iload_n 1, 1) := by decide +kernel
theorem d_jdk_67_method_14_code_2 : decode jdk_67_method_14_code 2 = .ok (.invokespecial 50, 3) := by decide +kernel
theorem pd_9 : parseMethodDescriptor "(C)Ljava/lang/AbstractStringBuilder;" = some ⟨[.char], some (.object "java/lang/AbstractStringBuilder")⟩ := by decide +kernel
theorem d_jdk_67_method_14_code_5 : decode jdk_67_method_14_code 5 = .ok (.pop, 1) := by decide +kernel
theorem d_jdk_67_method_14_code_6 : decode jdk_67_method_14_code 6 = .ok (.aload_n 0, 1) := by decide +kernel
theorem d_jdk_67_method_14_code_7 : decode jdk_67_method_14_code 7 = .ok (.areturn, 1) := by decide +kernel
def Q_appC (Z : State) (xb : Addr) (xc : Int32) (va : Addr) (ka : ClassId) (cs : List Int32) (G : Int32) (h0 : Heap) (n0 : Nat) (v : Option Value) (h : Heap) (L : List Loc) : Prop := (v = some (.ref xb)) ∧ (Fr n0 L) ∧ (Keep h0 h ([xb, va] : List Addr)) ∧ (Fld Z h xb "java/lang/AbstractStringBuilder" "value" "[B" (.ref va)) ∧ (Fld Z h xb "java/lang/AbstractStringBuilder" "coder" "B" (.int (0 : Int32))) ∧ (Fld Z h xb "java/lang/AbstractStringBuilder" "count" "I" (.int (Int32.ofNat (cs ++ [xc]).length))) ∧ (Arv Z h va ka .byte (16 : Int32) (own_bv (cs ++ [xc])) (.int (0 : Int32)))
set_option maxRecDepth 65536 in
set_option maxHeartbeats 40000000 in
theorem rm_appC (l : Launch) (Z : State) (a0 : Array Value) (hw : ∀ d ∈ tables_1, d.before a0 Z = true) (ws : List Jvm.Cond) (xb : Addr) (xc : Int32) (va : Addr) (ka : ClassId) (cs : List Int32) (G : Int32) (h0 : Heap) (n0 : Nat) (Z0 : n0 ≤ h0.size) (q0 : Sta Z Z.heap "java/lang/String" "COMPACT_STRINGS" "Z" (.int G)) (hCS : ¬ (G = (0 : Int32))) (q2 : Old Z n0 h0) (q3 : Exa Z h0 xb "java/lang/StringBuilder") (q4 : Fld Z h0 xb "java/lang/AbstractStringBuilder" "value" "[B" (.ref va)) (q5 : Fld Z h0 xb "java/lang/AbstractStringBuilder" "coder" "B" (.int (0 : Int32))) (q6 : Fld Z h0 xb "java/lang/AbstractStringBuilder" "count" "I" (.int (Int32.ofNat cs.length))) (q7 : Arv Z h0 va ka .byte (16 : Int32) (own_bv cs) (.int (0 : Int32))) (q8 : n0 ≤ xb) (q9 : n0 ≤ va) (q10 : xb ≠ va) (h255 : ¬ (255 : Int32) < xc) (h16 : cs.length + 1 ≤ 16) :
    MetFree l (⟨"java/lang/StringBuilder", "append", "(C)Ljava/lang/StringBuilder;"⟩ : MethodName) (head1 (Jvm.Cond.code (⟨"java/lang/StringBuilder", "append", "(C)Ljava/lang/StringBuilder;"⟩ : MethodName) jdk_67_method_14_code 2 (some (.object "java/lang/StringBuilder")) :: ws) ({ frames := 2, cells := 0, slots := 0, locals := 27 } : Room)) (fun a₁ U₁ => a₁ = #[(.ref xb), (.int xc)] ∧ Z.Warmed39 U₁.vm ∧ U₁.heap = h0) (fun _ _ _ _ _ => True) (fun _ U₁ o₁ U₂ => ∃ v₁ L₁, o₁ = .returned v₁ ∧ Q_appC Z xb xc va ka cs G h0 n0 v₁ U₂.heap L₁ ∧ FrameEnd U₁ o₁ U₂ L₁ ({ frames := 2, cells := 0, slots := 0, locals := 27 } : Room).cells ({ frames := 2, cells := 0, slots := 0, locals := 27 } : Room).slots) := by
  refine MetFree.of_bodySF (plainFor_of_name pn_3) hisR ?_
  intro p e s m args below meth c s₁ Bd hml0 hP hK
  obtain ⟨rfl, hZ, hh⟩ := hP
  have hx := Bd.exec
  have hby := Bd.bytes
  have hml : c.maxLocals = 2 := hml0
  have hown : s.vm.findClass "java/lang/StringBuilder" = some m.cls := findClass_of_methodNamed Bd.named
  have hnm := (name_of_methodNamed Bd.named Bd.method).1
  have X0 : Stand p l e ({ frames := 2, cells := 0, slots := 0, locals := 27 } : Room) s m #[(.ref xb), (.int xc)] below meth c s₁ [] 0 0 := Stand.of_body Bd
  have e0 : s₁.heap = h0 := by rw [← hh, Bd.state]; rfl
  have N0 := Fr.nil n0
  have pre0 : ∀ t, Steps p.tables e below (s₁.setTop (mkF m 0 #[.val (.ref xb), .val (.int xc)] [])) t → Steps p.tables e below (s₁.setTop (entryFrame m #[(.ref xb), (.int xc)] 2)) t := fun t k => castTop (ef_2 m xb xc) k
  obtain ⟨_, _, ⟨T301, L301, k301, n301⟩, -, X301, ⟨Lc301, hQ301, l301, y301, z301⟩, st301⟩ := superBack X0 hx hZ (K := "java/lang/StringBuilder") (y := (⟨"java/lang/AbstractStringBuilder", "append", "(C)Ljava/lang/AbstractStringBuilder;"⟩ : MethodName)) hown (hw _ (List.mem_of_getElem? (i := 181) rfl)) (own_same (z := (⟨"java/lang/AbstractStringBuilder", "ensureCapacityInternal", "(I)V"⟩ : MethodName)) (by decide) rfl (hw _ (List.mem_of_getElem? (i := 154) rfl)) (hw _ (List.mem_of_getElem? (i := 182) rfl))) (hw _ (List.mem_of_getElem? (i := 182) rfl)) (hw _ (List.mem_of_getElem? (i := 145) rfl)) (by decide) (backOf (W := 0) (rm_aappC l Z a0 hw [] xb xc va ka cs G h0 n0 Z0 q0 hCS q2 q3 q4 q5 q6 q7 q8 q9 q10 h255 h16) hZ (hw _ (List.mem_of_getElem? (i := 184) rfl)) (hw _ (List.mem_of_getElem? (i := 130) rfl)) (by decide) (by decide)) e0 (Ins.self q3) (g := (mkF m 2 #[.val (.ref xb), .val (.int xc)] [(.int xc), (.ref xb)])) rfl (by rw [hml]; rfl) (hw _ (List.mem_of_getElem? (i := 184) rfl)) (argsL := [(.int xc)]) (rest := []) (lenOf pd_9 rfl) rfl (by show 2 * 0 + _ ≤ _; exact Nat.le_of_eq rfl) (hb hby d_jdk_67_method_14_code_2) (fun _ _ => ⟨rfl, e0, (by decide : 0 + 0 ≤ _), (by decide : 0 + 0 ≤ _)⟩)
  dsimp only [Pt.U, Pt.locs, Pt.cells, Pt.slots] at X301 l301 y301 z301 st301 hQ301
  subst l301 y301 z301
  obtain ⟨rfl, Nq301, K301, f301_0, f301_1, f301_2, f301_3⟩ := hQ301
  have N301 := Fr.app N0 Nq301
  obtain ⟨fs, hr, hrun, hended, hW, hsame⟩ := X301.leave (v := some (.ref xb)) (fun h => by rw [Bd.returns] at h; cases h)
  refine ⟨_, _, pre0 _ ?_, hrun, hended, _, _, rfl, ?_, ⟨_, rfl⟩, hW, hsame.mono (by decide) (by decide)⟩
  · refine XS.aloadN X0.here hx rfl (hb hby d_jdk_67_method_14_code_0) rfl rfl ?_
    show Steps p.tables e below (s₁.setTop (mkF m 1 #[.val (.ref xb), .val (.int xc)] [(.ref xb)])) _
    refine XS.iloadN X0.here hx rfl (hb hby d_jdk_67_method_14_code_1) rfl ?_
    show Steps p.tables e below (s₁.setTop (mkF m 2 #[.val (.ref xb), .val (.int xc)] [(.int xc), (.ref xb)])) _
    refine st301.trans ?_
    show Steps p.tables e below (T301.setTop (mkF m 5 #[.val (.ref xb), .val (.int xc)] [(.ref xb)])) _
    refine XS.pop X301.here hx rfl (hb hby d_jdk_67_method_14_code_5) rfl rfl ?_
    show Steps p.tables e below (T301.setTop (mkF m 6 #[.val (.ref xb), .val (.int xc)] [])) _
    refine XS.aloadN X301.here hx rfl (hb hby d_jdk_67_method_14_code_6) rfl rfl ?_
    show Steps p.tables e below (T301.setTop (mkF m 7 #[.val (.ref xb), .val (.int xc)] [(.ref xb)])) _
    jvm_step X301.here [X301.here.top, hx, (hb hby d_jdk_67_method_14_code_7), X301.method', Bd.returns, Value.isRef, FieldType.isReference]
    first | (intro acts; rw [hr _ acts rfl rfl rfl]) | rw [hr _ _ rfl rfl rfl]
    exact Steps.refl _
  · show Q_appC Z xb xc va ka cs G h0 n0 _ T301.heap _
    exact ⟨rfl, N301, ((Keep.refl h0 ([xb, va] : List Addr)).trans K301 (allS (Or.inl (by simp)) (allS (Or.inl (by simp)) all0))), f301_0, f301_1, f301_2, f301_3⟩
theorem d_jdk_65_method_131_code_0 : decode jdk_65_method_131_code 0 = .ok (.iload_n 1, 1) := by decide +kernel
theorem d_jdk_65_method_131_code_1 : decode jdk_65_method_131_code 1 = .ok (.iload_n 0, 1) := by decide +kernel
theorem d_jdk_65_method_131_code_2 : decode jdk_65_method_131_code 2 = .ok (.if_icmp .ge 35, 3) := by decide +kernel
theorem d_jdk_65_method_131_code_37 : decode jdk_65_method_131_code 37 = .ok (.return_, 1) := by decide +kernel
theorem ef_8 (m : MethodId) (x0 : Int32) (x1 : Int32) : entryFrame m #[(.int x0), (.int x1)] 2 = mkF m 0 #[.val (.int x0), .val (.int x1)] [] := by first | (simp [entryFrame, mkF, argsToLocals, Value.category]; done) | rfl
theorem pn_4 : plainName "java/util/Arrays" = true := by first | (simp [plainName, overriddenIn]; done) | decide +kernel
def Q_chkL (Z : State) (n : Nat) (h0 : Heap) (n0 : Nat) (v : Option Value) (h : Heap) (L : List Loc) : Prop := (v = none) ∧ (Fr n0 L) ∧ (h = h0)
set_option maxRecDepth 65536 in
set_option maxHeartbeats 40000000 in
theorem rm_chkL (l : Launch) (Z : State) (a0 : Array Value) (hw : ∀ d ∈ tables_1, d.before a0 Z = true) (ws : List Jvm.Cond) (n : Nat) (h0 : Heap) (n0 : Nat) (Z0 : n0 ≤ h0.size) (hn31 : n < 2 ^ 31) :
    MetFree l (⟨"java/util/Arrays", "checkLength", "(II)V"⟩ : MethodName) (head1 (Jvm.Cond.code (⟨"java/util/Arrays", "checkLength", "(II)V"⟩ : MethodName) jdk_65_method_131_code 2 none :: ws) ({ frames := 0, cells := 0, slots := 0, locals := 0 } : Room)) (fun a₁ U₁ => a₁ = #[(.int (0 : Int32)), (.int (Int32.ofNat n))] ∧ Z.Warmed39 U₁.vm ∧ U₁.heap = h0) (fun _ _ _ _ _ => True) (fun _ U₁ o₁ U₂ => ∃ v₁ L₁, o₁ = .returned v₁ ∧ Q_chkL Z n h0 n0 v₁ U₂.heap L₁ ∧ FrameEnd U₁ o₁ U₂ L₁ ({ frames := 0, cells := 0, slots := 0, locals := 0 } : Room).cells ({ frames := 0, cells := 0, slots := 0, locals := 0 } : Room).slots) := by
  refine MetFree.of_bodySF (plainFor_of_name pn_4) hisR ?_
  intro p e s m args below meth c s₁ Bd hml0 hP hK
  obtain ⟨rfl, hZ, hh⟩ := hP
  have hx := Bd.exec
  have hby := Bd.bytes
  have hml : c.maxLocals = 2 := hml0
  have hown : s.vm.findClass "java/util/Arrays" = some m.cls := findClass_of_methodNamed Bd.named
  have hnm := (name_of_methodNamed Bd.named Bd.method).1
  have X0 : Stand p l e ({ frames := 0, cells := 0, slots := 0, locals := 0 } : Room) s m #[(.int (0 : Int32)), (.int (Int32.ofNat n))] below meth c s₁ [] 0 0 := Stand.of_body Bd
  have e0 : s₁.heap = h0 := by rw [← hh, Bd.state]; rfl
  have N0 := Fr.nil n0
  have pre0 : ∀ t, Steps p.tables e below (s₁.setTop (mkF m 0 #[.val (.int (0 : Int32)), .val (.int (Int32.ofNat n))] [])) t → Steps p.tables e below (s₁.setTop (entryFrame m #[(.int (0 : Int32)), (.int (Int32.ofNat n))] 2)) t := fun t k => castTop (ef_8 m (0 : Int32) (Int32.ofNat n)) k
  obtain ⟨fs, hr, hrun, hended, hW, hsame⟩ := X0.leave (v := none) (fun _ => rfl)
  refine ⟨_, _, pre0 _ ?_, hrun, hended, _, _, rfl, ?_, ⟨_, rfl⟩, hW, hsame.mono (by decide) (by decide)⟩
  · refine XS.iloadN X0.here hx rfl (hb hby d_jdk_65_method_131_code_0) rfl ?_
    show Steps p.tables e below (s₁.setTop (mkF m 1 #[.val (.int (0 : Int32)), .val (.int (Int32.ofNat n))] [(.int (Int32.ofNat n))])) _
    refine XS.iloadN X0.here hx rfl (hb hby d_jdk_65_method_131_code_1) rfl ?_
    show Steps p.tables e below (s₁.setTop (mkF m 2 #[.val (.int (0 : Int32)), .val (.int (Int32.ofNat n))] [(.int (0 : Int32)), (.int (Int32.ofNat n))])) _
    refine XS.icmpYes X0.here hx rfl (pc0 := 2) (pc' := 37) rfl (hb hby d_jdk_65_method_131_code_2) rfl (flt ((own_nlt (i := n) (n := 0) (Nat.zero_le _) hn31) : ¬ ((Int32.ofNat n) < (0 : Int32)))).2.1 (by decide) (by decide) ?_
    show Steps p.tables e below (s₁.setTop (mkF m 37 #[.val (.int (0 : Int32)), .val (.int (Int32.ofNat n))] [])) _
    exact X0.returnOut hx Bd.returns (hb hby d_jdk_65_method_131_code_37) hr
  · show Q_chkL Z n h0 n0 _ s₁.heap _
    rw [e0]
    exact ⟨rfl, N0, rfl⟩
theorem d_jdk_29_method_69_code_0 : decode jdk_29_method_69_code 0 = .ok (.iload_n 0, 1) := by decide +kernel
theorem d_jdk_29_method_69_code_1 : decode jdk_29_method_69_code 1 = .ok (.iload_n 1, 1) := by decide +kernel
theorem d_jdk_29_method_69_code_2 : decode jdk_29_method_69_code 2 = .ok (.if_icmp .gt 7, 3) := by decide +kernel
theorem d_jdk_29_method_69_code_9 : decode jdk_29_method_69_code 9 = .ok (.iload_n 1, 1) := by decide +kernel
theorem d_jdk_29_method_69_code_10 : decode jdk_29_method_69_code 10 = .ok (.ireturn, 1) := by decide +kernel
def Q_mmin2 (Z : State) (xa : Int32) (xn : Int32) (h0 : Heap) (n0 : Nat) (v : Option Value) (h : Heap) (L : List Loc) : Prop := (v = some (.int xn)) ∧ (Fr n0 L) ∧ (h = h0)
set_option maxRecDepth 65536 in
set_option maxHeartbeats 40000000 in
theorem rm_mmin2 (l : Launch) (Z : State) (a0 : Array Value) (hw : ∀ d ∈ tables_1, d.before a0 Z = true) (ws : List Jvm.Cond) (xa : Int32) (xn : Int32) (h0 : Heap) (n0 : Nat) (Z0 : n0 ≤ h0.size) (hab : xn < xa) :
    MetFree l (⟨"java/lang/Math", "min", "(II)I"⟩ : MethodName) (head1 (Jvm.Cond.code (⟨"java/lang/Math", "min", "(II)I"⟩ : MethodName) jdk_29_method_69_code 2 (some .int) :: ws) ({ frames := 0, cells := 0, slots := 0, locals := 0 } : Room)) (fun a₁ U₁ => a₁ = #[(.int xa), (.int xn)] ∧ Z.Warmed39 U₁.vm ∧ U₁.heap = h0) (fun _ _ _ _ _ => True) (fun _ U₁ o₁ U₂ => ∃ v₁ L₁, o₁ = .returned v₁ ∧ Q_mmin2 Z xa xn h0 n0 v₁ U₂.heap L₁ ∧ FrameEnd U₁ o₁ U₂ L₁ ({ frames := 0, cells := 0, slots := 0, locals := 0 } : Room).cells ({ frames := 0, cells := 0, slots := 0, locals := 0 } : Room).slots) := by
  refine MetFree.of_bodySF (Jvm.Free.JP.mathPlain rfl (by decide +kernel)) hisR ?_
  intro p e s m args below meth c s₁ Bd hml0 hP hK
  obtain ⟨rfl, hZ, hh⟩ := hP
  have hx := Bd.exec
  have hby := Bd.bytes
  have hml : c.maxLocals = 2 := hml0
  have hown : s.vm.findClass "java/lang/Math" = some m.cls := findClass_of_methodNamed Bd.named
  have hnm := (name_of_methodNamed Bd.named Bd.method).1
  have X0 : Stand p l e ({ frames := 0, cells := 0, slots := 0, locals := 0 } : Room) s m #[(.int xa), (.int xn)] below meth c s₁ [] 0 0 := Stand.of_body Bd
  have e0 : s₁.heap = h0 := by rw [← hh, Bd.state]; rfl
  have N0 := Fr.nil n0
  have pre0 : ∀ t, Steps p.tables e below (s₁.setTop (mkF m 0 #[.val (.int xa), .val (.int xn)] [])) t → Steps p.tables e below (s₁.setTop (entryFrame m #[(.int xa), (.int xn)] 2)) t := fun t k => castTop (ef_8 m xa xn) k
  obtain ⟨fs, hr, hrun, hended, hW, hsame⟩ := X0.leave (v := some (.int xn)) (fun h => by rw [Bd.returns] at h; cases h)
  refine ⟨_, _, pre0 _ ?_, hrun, hended, _, _, rfl, ?_, ⟨_, rfl⟩, hW, hsame.mono (by decide) (by decide)⟩
  · refine XS.iloadN X0.here hx rfl (hb hby d_jdk_29_method_69_code_0) rfl ?_
    show Steps p.tables e below (s₁.setTop (mkF m 1 #[.val (.int xa), .val (.int xn)] [(.int xa)])) _
    refine XS.iloadN X0.here hx rfl (hb hby d_jdk_29_method_69_code_1) rfl ?_
    show Steps p.tables e below (s₁.setTop (mkF m 2 #[.val (.int xa), .val (.int xn)] [(.int xn), (.int xa)])) _
    refine XS.icmpYes X0.here hx rfl (pc0 := 2) (pc' := 9) rfl (hb hby d_jdk_29_method_69_code_2) rfl (tlt (hab : xn < xa)).2.2.1 (by decide) (by decide) ?_
    show Steps p.tables e below (s₁.setTop (mkF m 9 #[.val (.int xa), .val (.int xn)] [])) _
    refine XS.iloadN X0.here hx rfl (hb hby d_jdk_29_method_69_code_9) rfl ?_
    show Steps p.tables e below (s₁.setTop (mkF m 10 #[.val (.int xa), .val (.int xn)] [(.int xn)])) _
    exact retI X0 hx Bd.returns (hb hby d_jdk_29_method_69_code_10) hr
  · show Q_mmin2 Z xa xn h0 n0 _ s₁.heap _
    rw [e0]
    exact ⟨rfl, N0, rfl⟩
theorem d_jdk_65_method_133_code_0 : decode jdk_65_method_133_code 0 = .ok (.iload_n 1, 1) := by decide +kernel
theorem d_jdk_65_method_133_code_1 : decode jdk_65_method_133_code 1 = .ok (.iload_n 2, 1) := by decide +kernel
theorem d_jdk_65_method_133_code_2 : decode jdk_65_method_133_code 2 = .ok (.invokestatic 343, 3) := by decide +kernel
theorem pd_10 : parseMethodDescriptor "(II)V" = some ⟨[.int, .int], none⟩ := by decide +kernel
theorem d_jdk_65_method_133_code_5 : decode jdk_65_method_133_code 5 = .ok (.iload_n 2, 1) := by decide +kernel
theorem d_jdk_65_method_133_code_6 : decode jdk_65_method_133_code 6 = .ok (.iload_n 1, 1) := by decide +kernel
theorem d_jdk_65_method_133_code_7 : decode jdk_65_method_133_code 7 = .ok (.isub, 1) := by decide +kernel
theorem d_jdk_65_method_133_code_8 : decode jdk_65_method_133_code 8 = .ok (.istore_n 3, 1) := by decide +kernel
theorem d_jdk_65_method_133_code_9 : decode jdk_65_method_133_code 9 = .ok (.iload_n 3, 1) := by decide +kernel
theorem d_jdk_65_method_133_code_10 : decode jdk_65_method_133_code 10 = .ok (.newarray .byte, 2) := by decide +kernel
theorem d_jdk_65_method_133_code_12 : decode jdk_65_method_133_code 12 = .ok (.astore 4, 2) := by decide +kernel
theorem d_jdk_65_method_133_code_14 : decode jdk_65_method_133_code 14 = .ok (.aload_n 0, 1) := by decide +kernel
theorem d_jdk_65_method_133_code_15 : decode jdk_65_method_133_code 15 = .ok (.iload_n 1, 1) := by decide +kernel
theorem d_jdk_65_method_133_code_16 : decode jdk_65_method_133_code 16 = .ok (.aload 4, 2) := by decide +kernel
theorem d_jdk_65_method_133_code_18 : decode jdk_65_method_133_code 18 = .ok (.iconst 0, 1) := by decide +kernel
theorem d_jdk_65_method_133_code_19 : decode jdk_65_method_133_code 19 = .ok (.aload_n 0, 1) := by decide +kernel
theorem d_jdk_65_method_133_code_20 : decode jdk_65_method_133_code 20 = .ok (.arraylength, 1) := by decide +kernel
theorem d_jdk_65_method_133_code_21 : decode jdk_65_method_133_code 21 = .ok (.iload_n 1, 1) := by decide +kernel
theorem d_jdk_65_method_133_code_22 : decode jdk_65_method_133_code 22 = .ok (.isub, 1) := by decide +kernel
theorem d_jdk_65_method_133_code_23 : decode jdk_65_method_133_code 23 = .ok (.iload_n 3, 1) := by decide +kernel
theorem d_jdk_65_method_133_code_24 : decode jdk_65_method_133_code 24 = .ok (.invokestatic 304, 3) := by decide +kernel
theorem pd_11 : parseMethodDescriptor "(II)I" = some ⟨[.int, .int], some .int⟩ := by decide +kernel
theorem d_jdk_65_method_133_code_27 : decode jdk_65_method_133_code 27 = .ok (.invokestatic 150, 3) := by decide +kernel
theorem d_jdk_65_method_133_code_30 : decode jdk_65_method_133_code 30 = .ok (.aload 4, 2) := by decide +kernel
theorem d_jdk_65_method_133_code_32 : decode jdk_65_method_133_code 32 = .ok (.areturn, 1) := by decide +kernel
theorem ef_9 (m : MethodId) (x0 : Addr) (x1 : Int32) (x2 : Int32) : entryFrame m #[(.ref x0), (.int x1), (.int x2)] 5 = mkF m 0 #[.val (.ref x0), .val (.int x1), .val (.int x2), .unset, .unset] [] := by first | (simp [entryFrame, mkF, argsToLocals, Value.category]; done) | rfl
def Q_corB (Z : State) (va : Addr) (ka : ClassId) (cs : List Int32) (h0 : Heap) (n0 : Nat) (v : Option Value) (h : Heap) (L : List Loc) : Prop := ∃ (tt : Addr) (kt : ClassId), (v = some (.ref tt)) ∧ (Fr n0 L) ∧ (Keep h0 h ([] : List Addr)) ∧ (h0.size ≤ tt) ∧ (Arv Z h tt kt .byte (Int32.ofNat cs.length) (own_bs cs) (.int (0 : Int32)))
set_option maxRecDepth 65536 in
set_option maxHeartbeats 40000000 in
theorem rm_corB (l : Launch) (Z : State) (a0 : Array Value) (hw : ∀ d ∈ tables_1, d.before a0 Z = true) (ws : List Jvm.Cond) (va : Addr) (ka : ClassId) (cs : List Int32) (h0 : Heap) (n0 : Nat) (Z0 : n0 ≤ h0.size) (q0 : Arv Z h0 va ka .byte (16 : Int32) (own_bv cs) (.int (0 : Int32))) (hlt : cs.length < 16) :
    MetFree l (⟨"java/util/Arrays", "copyOfRangeByte", "([BII)[B"⟩ : MethodName) (head1 (Jvm.Cond.code (⟨"java/util/Arrays", "copyOfRangeByte", "([BII)[B"⟩ : MethodName) jdk_65_method_133_code 5 (some (.array .byte)) :: ws) ({ frames := 1, cells := 1, slots := 16, locals := 18 } : Room)) (fun a₁ U₁ => a₁ = #[(.ref va), (.int (0 : Int32)), (.int (Int32.ofNat cs.length))] ∧ Z.Warmed39 U₁.vm ∧ U₁.heap = h0) (fun _ _ _ _ _ => True) (fun _ U₁ o₁ U₂ => ∃ v₁ L₁, o₁ = .returned v₁ ∧ Q_corB Z va ka cs h0 n0 v₁ U₂.heap L₁ ∧ FrameEnd U₁ o₁ U₂ L₁ ({ frames := 1, cells := 1, slots := 16, locals := 18 } : Room).cells ({ frames := 1, cells := 1, slots := 16, locals := 18 } : Room).slots) := by
  refine MetFree.of_bodySF (plainFor_of_name pn_4) hisR ?_
  intro p e s m args below meth c s₁ Bd hml0 hP hK
  obtain ⟨rfl, hZ, hh⟩ := hP
  have hx := Bd.exec
  have hby := Bd.bytes
  have hml : c.maxLocals = 5 := hml0
  have hown : s.vm.findClass "java/util/Arrays" = some m.cls := findClass_of_methodNamed Bd.named
  have hnm := (name_of_methodNamed Bd.named Bd.method).1
  have X0 : Stand p l e ({ frames := 1, cells := 1, slots := 16, locals := 18 } : Room) s m #[(.ref va), (.int (0 : Int32)), (.int (Int32.ofNat cs.length))] below meth c s₁ [] 0 0 := Stand.of_body Bd
  have e0 : s₁.heap = h0 := by rw [← hh, Bd.state]; rfl
  have N0 := Fr.nil n0
  have pre0 : ∀ t, Steps p.tables e below (s₁.setTop (mkF m 0 #[.val (.ref va), .val (.int (0 : Int32)), .val (.int (Int32.ofNat cs.length)), .unset, .unset] [])) t → Steps p.tables e below (s₁.setTop (entryFrame m #[(.ref va), (.int (0 : Int32)), (.int (Int32.ofNat cs.length))] 5)) t := fun t k => castTop (ef_9 m va (0 : Int32) (Int32.ofNat cs.length)) k
  obtain ⟨_, _, ⟨T301, L301, k301, n301⟩, -, X301, ⟨Lc301, hQ301, l301, y301, z301⟩, st301⟩ := Jvm.LawKit.callS X0 hx (y := (⟨"java/util/Arrays", "checkLength", "(II)V"⟩ : MethodName)) hown (mvT hZ (hw _ (List.mem_of_getElem? (i := 226) rfl))) (mvT hZ (hw _ (List.mem_of_getElem? (i := 227) rfl))) (mvT hZ (hw _ (List.mem_of_getElem? (i := 221) rfl))) (mvT hZ (hw _ (List.mem_of_getElem? (i := 228) rfl))) (by decide) (backOf (W := 0) (rm_chkL l Z a0 hw [] cs.length h0 n0 Z0 (by omega)) hZ (hw _ (List.mem_of_getElem? (i := 228) rfl)) (hw _ (List.mem_of_getElem? (i := 221) rfl)) (by decide) (by decide)) (g := (mkF m 2 #[.val (.ref va), .val (.int (0 : Int32)), .val (.int (Int32.ofNat cs.length)), .unset, .unset] [(.int (Int32.ofNat cs.length)), (.int (0 : Int32))])) rfl (by rw [hml]; rfl) (argsL := [(.int (0 : Int32)), (.int (Int32.ofNat cs.length))]) (rest := []) (lenOf pd_10 rfl) rfl (by show 2 * 0 + _ ≤ _; exact Nat.le_of_eq rfl) (hb hby d_jdk_65_method_133_code_2) (fun _ _ => ⟨rfl, e0, (by decide : 0 + 0 ≤ _), (by decide : 0 + 0 ≤ _)⟩)
  dsimp only [Pt.U, Pt.locs, Pt.cells, Pt.slots] at X301 l301 y301 z301 st301 hQ301
  subst l301 y301 z301
  obtain ⟨rfl, Nq301, e301⟩ := hQ301
  have N301 := Fr.app N0 Nq301
  obtain ⟨T302, h302, ky302, X302, e302, E302, A302, st302⟩ := newP X301 hx hZ (hw _ (List.mem_of_getElem? (i := 22) rfl)) e301 (g := (mkF m 10 #[.val (.ref va), .val (.int (0 : Int32)), .val (.int (Int32.ofNat cs.length)), .val (.int (Int32.ofNat cs.length)), .unset] [(.int (Int32.ofNat cs.length))])) rfl (hb hby d_jdk_65_method_133_code_10) rfl ((own_nlt (Nat.zero_le _) (by omega)) : ¬ ((Int32.ofNat cs.length) < (0 : Int32))) (cap := 16) ((by rw [own_clamp (by omega)]; omega) : (Int32.ofNat cs.length).toNatClampNeg ≤ 16) (by decide) (by decide) (by decide)
  obtain ⟨b302, g302⟩ : ∃ z, z = h0.size := ⟨_, rfl⟩
  rw [← g302] at A302 st302
  have V302 : Arv Z h302 b302 ky302 .byte (Int32.ofNat cs.length) [] (.int (0 : Int32)) := Arv.new A302 (own_nlt (Nat.zero_le _) (by omega))
  have U302 : Arv Z h302 b302 ky302 .byte (Int32.ofNat cs.length) (List.replicate cs.length (.int (0 : Int32))) (.int (0 : Int32)) := V302.pad (pad_rep [] (.int (0 : Int32)) cs.length)
  have c303 : Arv Z h302 va ka .byte (16 : Int32) (own_bv cs) (.int (0 : Int32)) := (q0.ext E302)
  obtain ⟨cl304, Ar304, -, S304, M304, -, -⟩ := id c303
  obtain ⟨_, _, ⟨T305, L305, k305, n305⟩, -, X305, ⟨Lc305, hQ305, l305, y305, z305⟩, st305⟩ := Jvm.LawKit.callS X302 hx (y := (⟨"java/lang/Math", "min", "(II)I"⟩ : MethodName)) hown (mvT hZ (hw _ (List.mem_of_getElem? (i := 229) rfl))) (mvT hZ (hw _ (List.mem_of_getElem? (i := 89) rfl))) (mvT hZ (hw _ (List.mem_of_getElem? (i := 86) rfl))) (mvT hZ (hw _ (List.mem_of_getElem? (i := 90) rfl))) (by decide) (backOf (W := 4) (rm_mmin2 l Z a0 hw [] (16 : Int32) (Int32.ofNat cs.length) h302 n0 (Nat.le_trans Z0 E302.1) ((own_inb (n := 16) hlt (by omega)).2)) hZ (hw _ (List.mem_of_getElem? (i := 90) rfl)) (hw _ (List.mem_of_getElem? (i := 86) rfl)) (by decide) (by decide)) (g := (mkF m 24 #[.val (.ref va), .val (.int (0 : Int32)), .val (.int (Int32.ofNat cs.length)), .val (.int (Int32.ofNat cs.length)), .val (.ref b302)] [(.int (Int32.ofNat cs.length)), (.int (16 : Int32)), (.int (0 : Int32)), (.ref b302), (.int (0 : Int32)), (.ref va)])) rfl (by rw [hml]; rfl) (argsL := [(.int (16 : Int32)), (.int (Int32.ofNat cs.length))]) (rest := [(.int (0 : Int32)), (.ref b302), (.int (0 : Int32)), (.ref va)]) (lenOf pd_11 rfl) rfl (by show 2 * 0 + _ ≤ _; exact Nat.le_of_eq rfl) (hb hby d_jdk_65_method_133_code_24) (fun _ _ => ⟨rfl, e302, (by decide : 1 + 0 ≤ _), (by decide : 16 + 0 ≤ _)⟩)
  dsimp only [Pt.U, Pt.locs, Pt.cells, Pt.slots] at X305 l305 y305 z305 st305 hQ305
  subst l305 y305 z305
  obtain ⟨rfl, Nq305, e305⟩ := hQ305
  have N305 := Fr.app N301 Nq305
  have ge307 : n0 ≤ b302 := Nat.le_trans Z0 (Nat.le_trans (Nat.le_refl _) (Nat.le_of_eq g302.symm))
  obtain ⟨T306, h306, lc306, X306, e306, N306, K306, fA306, st306⟩ := cpA X305 hx hZ hown (hw _ (List.mem_of_getElem? (i := 230) rfl)) (hw _ (List.mem_of_getElem? (i := 175) rfl)) (hw _ (List.mem_of_getElem? (i := 173) rfl)) (hw _ (List.mem_of_getElem? (i := 174) rfl)) e305 c303 U302 (Or.inl ⟨rfl, rfl⟩) (by decide) (by decide) (own_nlt (Nat.zero_le _) (by omega)) (by rw [own_clamp (by omega)]; show 0 + _ ≤ 16; omega) (by rw [own_clamp (by omega)]; exact Nat.le_of_eq (Nat.zero_add _)) rfl (by rw [own_clamp (by omega), List.length_replicate]; exact Nat.le_of_eq (Nat.zero_add _)) N305 ge307 (g := (mkF m 27 #[.val (.ref va), .val (.int (0 : Int32)), .val (.int (Int32.ofNat cs.length)), .val (.int (Int32.ofNat cs.length)), .val (.ref b302)] [(.int (Int32.ofNat cs.length)), (.int (0 : Int32)), (.ref b302), (.int (0 : Int32)), (.ref va)])) rfl (by rw [hml]; rfl) rfl (hb hby d_jdk_65_method_133_code_27) (by decide) (W := 0) (by show 2 * 0 + _ ≤ _; exact Nat.le_of_eq rfl) (by decide)
  have R308 : Arv Z h306 b302 ky302 .byte (Int32.ofNat cs.length) (own_bs cs) (.int (0 : Int32)) := by have q := fA306; rw [own_cut (by omega)] at q; exact q
  obtain ⟨fs, hr, hrun, hended, hW, hsame⟩ := X306.leave (v := some (.ref b302)) (fun h => by rw [Bd.returns] at h; cases h)
  refine ⟨_, _, pre0 _ ?_, hrun, hended, _, _, rfl, ?_, ⟨_, rfl⟩, hW, hsame.mono (by decide) (by decide)⟩
  · refine XS.iloadN X0.here hx rfl (hb hby d_jdk_65_method_133_code_0) rfl ?_
    show Steps p.tables e below (s₁.setTop (mkF m 1 #[.val (.ref va), .val (.int (0 : Int32)), .val (.int (Int32.ofNat cs.length)), .unset, .unset] [(.int (0 : Int32))])) _
    refine XS.iloadN X0.here hx rfl (hb hby d_jdk_65_method_133_code_1) rfl ?_
    show Steps p.tables e below (s₁.setTop (mkF m 2 #[.val (.ref va), .val (.int (0 : Int32)), .val (.int (Int32.ofNat cs.length)), .unset, .unset] [(.int (Int32.ofNat cs.length)), (.int (0 : Int32))])) _
    refine st301 _ ?_
    show Steps p.tables e below (T301.setTop (mkF m 5 #[.val (.ref va), .val (.int (0 : Int32)), .val (.int (Int32.ofNat cs.length)), .unset, .unset] [])) _
    refine XS.iloadN X301.here hx rfl (hb hby d_jdk_65_method_133_code_5) rfl ?_
    show Steps p.tables e below (T301.setTop (mkF m 6 #[.val (.ref va), .val (.int (0 : Int32)), .val (.int (Int32.ofNat cs.length)), .unset, .unset] [(.int (Int32.ofNat cs.length))])) _
    refine XS.iloadN X301.here hx rfl (hb hby d_jdk_65_method_133_code_6) rfl ?_
    show Steps p.tables e below (T301.setTop (mkF m 7 #[.val (.ref va), .val (.int (0 : Int32)), .val (.int (Int32.ofNat cs.length)), .unset, .unset] [(.int (0 : Int32)), (.int (Int32.ofNat cs.length))])) _
    refine XS.isub X301.here hx rfl (hb hby d_jdk_65_method_133_code_7) rfl ?_
    show Steps p.tables e below (T301.setTop (mkF m 8 #[.val (.ref va), .val (.int (0 : Int32)), .val (.int (Int32.ofNat cs.length)), .unset, .unset] [(.int ((Int32.ofNat cs.length) - (0 : Int32)))])) _
    rw [Int32.sub_zero]
    show Steps p.tables e below (T301.setTop (mkF m 8 #[.val (.ref va), .val (.int (0 : Int32)), .val (.int (Int32.ofNat cs.length)), .unset, .unset] [(.int (Int32.ofNat cs.length))])) _
    refine XS.istoreN X301.here hx rfl (hb hby d_jdk_65_method_133_code_8) rfl (l' := #[.val (.ref va), .val (.int (0 : Int32)), .val (.int (Int32.ofNat cs.length)), .val (.int (Int32.ofNat cs.length)), .unset]) rfl ?_
    show Steps p.tables e below (T301.setTop (mkF m 9 #[.val (.ref va), .val (.int (0 : Int32)), .val (.int (Int32.ofNat cs.length)), .val (.int (Int32.ofNat cs.length)), .unset] [])) _
    refine XS.iloadN X301.here hx rfl (hb hby d_jdk_65_method_133_code_9) rfl ?_
    show Steps p.tables e below (T301.setTop (mkF m 10 #[.val (.ref va), .val (.int (0 : Int32)), .val (.int (Int32.ofNat cs.length)), .val (.int (Int32.ofNat cs.length)), .unset] [(.int (Int32.ofNat cs.length))])) _
    refine st302 _ ?_
    show Steps p.tables e below (T302.setTop (mkF m 12 #[.val (.ref va), .val (.int (0 : Int32)), .val (.int (Int32.ofNat cs.length)), .val (.int (Int32.ofNat cs.length)), .unset] [(.ref b302)])) _
    refine XS.astore X302.here hx rfl (hb hby d_jdk_65_method_133_code_12) rfl rfl (l' := #[.val (.ref va), .val (.int (0 : Int32)), .val (.int (Int32.ofNat cs.length)), .val (.int (Int32.ofNat cs.length)), .val (.ref b302)]) rfl ?_
    show Steps p.tables e below (T302.setTop (mkF m 14 #[.val (.ref va), .val (.int (0 : Int32)), .val (.int (Int32.ofNat cs.length)), .val (.int (Int32.ofNat cs.length)), .val (.ref b302)] [])) _
    refine XS.aloadN X302.here hx rfl (hb hby d_jdk_65_method_133_code_14) rfl rfl ?_
    show Steps p.tables e below (T302.setTop (mkF m 15 #[.val (.ref va), .val (.int (0 : Int32)), .val (.int (Int32.ofNat cs.length)), .val (.int (Int32.ofNat cs.length)), .val (.ref b302)] [(.ref va)])) _
    refine XS.iloadN X302.here hx rfl (hb hby d_jdk_65_method_133_code_15) rfl ?_
    show Steps p.tables e below (T302.setTop (mkF m 16 #[.val (.ref va), .val (.int (0 : Int32)), .val (.int (Int32.ofNat cs.length)), .val (.int (Int32.ofNat cs.length)), .val (.ref b302)] [(.int (0 : Int32)), (.ref va)])) _
    refine XS.aload X302.here hx rfl (hb hby d_jdk_65_method_133_code_16) rfl rfl ?_
    show Steps p.tables e below (T302.setTop (mkF m 18 #[.val (.ref va), .val (.int (0 : Int32)), .val (.int (Int32.ofNat cs.length)), .val (.int (Int32.ofNat cs.length)), .val (.ref b302)] [(.ref b302), (.int (0 : Int32)), (.ref va)])) _
    refine XS.iconst X302.here hx rfl (hb hby d_jdk_65_method_133_code_18) ?_
    show Steps p.tables e below (T302.setTop (mkF m 19 #[.val (.ref va), .val (.int (0 : Int32)), .val (.int (Int32.ofNat cs.length)), .val (.int (Int32.ofNat cs.length)), .val (.ref b302)] [(.int (0 : Int32)), (.ref b302), (.int (0 : Int32)), (.ref va)])) _
    refine XS.aloadN X302.here hx rfl (hb hby d_jdk_65_method_133_code_19) rfl rfl ?_
    show Steps p.tables e below (T302.setTop (mkF m 20 #[.val (.ref va), .val (.int (0 : Int32)), .val (.int (Int32.ofNat cs.length)), .val (.int (Int32.ofNat cs.length)), .val (.ref b302)] [(.ref va), (.int (0 : Int32)), (.ref b302), (.int (0 : Int32)), (.ref va)])) _
    refine X302.arraylength hx (by rw [e302]; exact Ar304.1) (State.isArrayOf_alike hZ.alike Ar304.2.1) (g := (mkF m 20 #[.val (.ref va), .val (.int (0 : Int32)), .val (.int (Int32.ofNat cs.length)), .val (.int (Int32.ofNat cs.length)), .val (.ref b302)] [(.ref va), (.int (0 : Int32)), (.ref b302), (.int (0 : Int32)), (.ref va)])) rfl rfl (hb hby d_jdk_65_method_133_code_20) _ ?_
    rw [len_of S304 M304]
    show Steps p.tables e below (T302.setTop (mkF m 21 #[.val (.ref va), .val (.int (0 : Int32)), .val (.int (Int32.ofNat cs.length)), .val (.int (Int32.ofNat cs.length)), .val (.ref b302)] [(.int (16 : Int32)), (.int (0 : Int32)), (.ref b302), (.int (0 : Int32)), (.ref va)])) _
    refine XS.iloadN X302.here hx rfl (hb hby d_jdk_65_method_133_code_21) rfl ?_
    show Steps p.tables e below (T302.setTop (mkF m 22 #[.val (.ref va), .val (.int (0 : Int32)), .val (.int (Int32.ofNat cs.length)), .val (.int (Int32.ofNat cs.length)), .val (.ref b302)] [(.int (0 : Int32)), (.int (16 : Int32)), (.int (0 : Int32)), (.ref b302), (.int (0 : Int32)), (.ref va)])) _
    refine XS.isub X302.here hx rfl (hb hby d_jdk_65_method_133_code_22) rfl ?_
    show Steps p.tables e below (T302.setTop (mkF m 23 #[.val (.ref va), .val (.int (0 : Int32)), .val (.int (Int32.ofNat cs.length)), .val (.int (Int32.ofNat cs.length)), .val (.ref b302)] [(.int (16 : Int32)), (.int (0 : Int32)), (.ref b302), (.int (0 : Int32)), (.ref va)])) _
    refine XS.iloadN X302.here hx rfl (hb hby d_jdk_65_method_133_code_23) rfl ?_
    show Steps p.tables e below (T302.setTop (mkF m 24 #[.val (.ref va), .val (.int (0 : Int32)), .val (.int (Int32.ofNat cs.length)), .val (.int (Int32.ofNat cs.length)), .val (.ref b302)] [(.int (Int32.ofNat cs.length)), (.int (16 : Int32)), (.int (0 : Int32)), (.ref b302), (.int (0 : Int32)), (.ref va)])) _
    refine st305 _ ?_
    show Steps p.tables e below (T305.setTop (mkF m 27 #[.val (.ref va), .val (.int (0 : Int32)), .val (.int (Int32.ofNat cs.length)), .val (.int (Int32.ofNat cs.length)), .val (.ref b302)] [(.int (Int32.ofNat cs.length)), (.int (0 : Int32)), (.ref b302), (.int (0 : Int32)), (.ref va)])) _
    refine st306 _ ?_
    show Steps p.tables e below (T306.setTop (mkF m 30 #[.val (.ref va), .val (.int (0 : Int32)), .val (.int (Int32.ofNat cs.length)), .val (.int (Int32.ofNat cs.length)), .val (.ref b302)] [])) _
    refine XS.aload X306.here hx rfl (hb hby d_jdk_65_method_133_code_30) rfl rfl ?_
    show Steps p.tables e below (T306.setTop (mkF m 32 #[.val (.ref va), .val (.int (0 : Int32)), .val (.int (Int32.ofNat cs.length)), .val (.int (Int32.ofNat cs.length)), .val (.ref b302)] [(.ref b302)])) _
    jvm_step X306.here [X306.here.top, hx, (hb hby d_jdk_65_method_133_code_32), X306.method', Bd.returns, Value.isRef, FieldType.isReference]
    first | (intro acts; rw [hr _ acts rfl rfl rfl]) | rw [hr _ _ rfl rfl rfl]
    exact Steps.refl _
  · show Q_corB Z va ka cs h0 n0 _ T306.heap _
    rw [e306]
    exact ⟨b302, ky302, rfl, N306, (((Keep.refl h0 ([] : List Addr)).ext E302).trans K306 (allS (Or.inr (Nat.le_trans (Nat.le_refl _) (Nat.le_of_eq g302.symm))) all0)), (Nat.le_trans (Nat.le_refl _) (Nat.le_of_eq g302.symm)), R308⟩
theorem d_jdk_65_method_132_code_0 : decode jdk_65_method_132_code 0 = .ok (.iload_n 1, 1) := by decide +kernel
theorem d_jdk_65_method_132_code_1 : decode jdk_65_method_132_code 1 = .ok (.ifCond .ne 9, 3) := by decide +kernel
theorem d_jdk_65_method_132_code_4 : decode jdk_65_method_132_code 4 = .ok (.iload_n 2, 1) := by decide +kernel
theorem d_jdk_65_method_132_code_5 : decode jdk_65_method_132_code 5 = .ok (.aload_n 0, 1) := by decide +kernel
theorem d_jdk_65_method_132_code_6 : decode jdk_65_method_132_code 6 = .ok (.arraylength, 1) := by decide +kernel
theorem d_jdk_65_method_132_code_7 : decode jdk_65_method_132_code 7 = .ok (.if_icmp .eq 10, 3) := by decide +kernel
theorem d_jdk_65_method_132_code_10 : decode jdk_65_method_132_code 10 = .ok (.aload_n 0, 1) := by decide +kernel
theorem d_jdk_65_method_132_code_11 : decode jdk_65_method_132_code 11 = .ok (.iload_n 1, 1) := by decide +kernel
theorem d_jdk_65_method_132_code_12 : decode jdk_65_method_132_code 12 = .ok (.iload_n 2, 1) := by decide +kernel
theorem d_jdk_65_method_132_code_13 : decode jdk_65_method_132_code 13 = .ok (.invokestatic 339, 3) := by decide +kernel
theorem pd_12 : parseMethodDescriptor "([BII)[B" = some ⟨[(.array .byte), .int, .int], some (.array .byte)⟩ := by decide +kernel
theorem d_jdk_65_method_132_code_16 : decode jdk_65_method_132_code 16 = .ok (.areturn, 1) := by decide +kernel
theorem ef_10 (m : MethodId) (x0 : Addr) (x1 : Int32) (x2 : Int32) : entryFrame m #[(.ref x0), (.int x1), (.int x2)] 3 = mkF m 0 #[.val (.ref x0), .val (.int x1), .val (.int x2)] [] := by first | (simp [entryFrame, mkF, argsToLocals, Value.category]; done) | rfl
def Q_cor (Z : State) (va : Addr) (ka : ClassId) (cs : List Int32) (h0 : Heap) (n0 : Nat) (v : Option Value) (h : Heap) (L : List Loc) : Prop := ∃ (tt : Addr) (kt : ClassId), (v = some (.ref tt)) ∧ (Fr n0 L) ∧ (Keep h0 h ([] : List Addr)) ∧ (h0.size ≤ tt) ∧ (Arv Z h tt kt .byte (Int32.ofNat cs.length) (own_bs cs) (.int (0 : Int32)))
set_option maxRecDepth 65536 in
set_option maxHeartbeats 40000000 in
theorem rm_cor (l : Launch) (Z : State) (a0 : Array Value) (hw : ∀ d ∈ tables_1, d.before a0 Z = true) (ws : List Jvm.Cond) (va : Addr) (ka : ClassId) (cs : List Int32) (h0 : Heap) (n0 : Nat) (Z0 : n0 ≤ h0.size) (q0 : Arv Z h0 va ka .byte (16 : Int32) (own_bv cs) (.int (0 : Int32))) (hlt : cs.length < 16) :
    MetFree l (⟨"java/util/Arrays", "copyOfRange", "([BII)[B"⟩ : MethodName) (head1 (Jvm.Cond.code (⟨"java/util/Arrays", "copyOfRange", "([BII)[B"⟩ : MethodName) jdk_65_method_132_code 3 (some (.array .byte)) :: ws) ({ frames := 2, cells := 1, slots := 16, locals := 34 } : Room)) (fun a₁ U₁ => a₁ = #[(.ref va), (.int (0 : Int32)), (.int (Int32.ofNat cs.length))] ∧ Z.Warmed39 U₁.vm ∧ U₁.heap = h0) (fun _ _ _ _ _ => True) (fun _ U₁ o₁ U₂ => ∃ v₁ L₁, o₁ = .returned v₁ ∧ Q_cor Z va ka cs h0 n0 v₁ U₂.heap L₁ ∧ FrameEnd U₁ o₁ U₂ L₁ ({ frames := 2, cells := 1, slots := 16, locals := 34 } : Room).cells ({ frames := 2, cells := 1, slots := 16, locals := 34 } : Room).slots) := by
  refine MetFree.of_bodySF (plainFor_of_name pn_4) hisR ?_
  intro p e s m args below meth c s₁ Bd hml0 hP hK
  obtain ⟨rfl, hZ, hh⟩ := hP
  have hx := Bd.exec
  have hby := Bd.bytes
  have hml : c.maxLocals = 3 := hml0
  have hown : s.vm.findClass "java/util/Arrays" = some m.cls := findClass_of_methodNamed Bd.named
  have hnm := (name_of_methodNamed Bd.named Bd.method).1
  have X0 : Stand p l e ({ frames := 2, cells := 1, slots := 16, locals := 34 } : Room) s m #[(.ref va), (.int (0 : Int32)), (.int (Int32.ofNat cs.length))] below meth c s₁ [] 0 0 := Stand.of_body Bd
  have e0 : s₁.heap = h0 := by rw [← hh, Bd.state]; rfl
  have N0 := Fr.nil n0
  have pre0 : ∀ t, Steps p.tables e below (s₁.setTop (mkF m 0 #[.val (.ref va), .val (.int (0 : Int32)), .val (.int (Int32.ofNat cs.length))] [])) t → Steps p.tables e below (s₁.setTop (entryFrame m #[(.ref va), (.int (0 : Int32)), (.int (Int32.ofNat cs.length))] 3)) t := fun t k => castTop (ef_10 m va (0 : Int32) (Int32.ofNat cs.length)) k
  obtain ⟨cl301, Ar301, -, S301, M301, -, -⟩ := id q0
  obtain ⟨_, _, ⟨T302, L302, k302, n302⟩, -, X302, ⟨Lc302, hQ302, l302, y302, z302⟩, st302⟩ := Jvm.LawKit.callS X0 hx (y := (⟨"java/util/Arrays", "copyOfRangeByte", "([BII)[B"⟩ : MethodName)) hown (mvT hZ (hw _ (List.mem_of_getElem? (i := 223) rfl))) (mvT hZ (hw _ (List.mem_of_getElem? (i := 224) rfl))) (mvT hZ (hw _ (List.mem_of_getElem? (i := 221) rfl))) (mvT hZ (hw _ (List.mem_of_getElem? (i := 225) rfl))) (by decide) (backOf (W := 0) (rm_corB l Z a0 hw [] va ka cs h0 n0 Z0 q0 hlt) hZ (hw _ (List.mem_of_getElem? (i := 225) rfl)) (hw _ (List.mem_of_getElem? (i := 221) rfl)) (by decide) (by decide)) (g := (mkF m 13 #[.val (.ref va), .val (.int (0 : Int32)), .val (.int (Int32.ofNat cs.length))] [(.int (Int32.ofNat cs.length)), (.int (0 : Int32)), (.ref va)])) rfl (by rw [hml]; rfl) (argsL := [(.ref va), (.int (0 : Int32)), (.int (Int32.ofNat cs.length))]) (rest := []) (lenOf pd_12 rfl) rfl (by show 2 * 0 + _ ≤ _; exact Nat.le_of_eq rfl) (hb hby d_jdk_65_method_132_code_13) (fun _ _ => ⟨rfl, e0, (by decide : 0 + 1 ≤ _), (by decide : 0 + 16 ≤ _)⟩)
  dsimp only [Pt.U, Pt.locs, Pt.cells, Pt.slots] at X302 l302 y302 z302 st302 hQ302
  subst l302 y302 z302
  obtain ⟨tt_302, kt_302, rfl, Nq302, K302, f302_0, f302_1⟩ := hQ302
  have N302 := Fr.app N0 Nq302
  obtain ⟨fs, hr, hrun, hended, hW, hsame⟩ := X302.leave (v := some (.ref tt_302)) (fun h => by rw [Bd.returns] at h; cases h)
  refine ⟨_, _, pre0 _ ?_, hrun, hended, _, _, rfl, ?_, ⟨_, rfl⟩, hW, hsame.mono (by decide) (by decide)⟩
  · refine XS.iloadN X0.here hx rfl (hb hby d_jdk_65_method_132_code_0) rfl ?_
    show Steps p.tables e below (s₁.setTop (mkF m 1 #[.val (.ref va), .val (.int (0 : Int32)), .val (.int (Int32.ofNat cs.length))] [(.int (0 : Int32))])) _
    refine XS.ifNo X0.here hx rfl (hb hby d_jdk_65_method_132_code_1) rfl ((if0 _ _).trans (teq ((by decide) : (0 : Int32) = (0 : Int32))).2) ?_
    show Steps p.tables e below (s₁.setTop (mkF m 4 #[.val (.ref va), .val (.int (0 : Int32)), .val (.int (Int32.ofNat cs.length))] [])) _
    refine XS.iloadN X0.here hx rfl (hb hby d_jdk_65_method_132_code_4) rfl ?_
    show Steps p.tables e below (s₁.setTop (mkF m 5 #[.val (.ref va), .val (.int (0 : Int32)), .val (.int (Int32.ofNat cs.length))] [(.int (Int32.ofNat cs.length))])) _
    refine XS.aloadN X0.here hx rfl (hb hby d_jdk_65_method_132_code_5) rfl rfl ?_
    show Steps p.tables e below (s₁.setTop (mkF m 6 #[.val (.ref va), .val (.int (0 : Int32)), .val (.int (Int32.ofNat cs.length))] [(.ref va), (.int (Int32.ofNat cs.length))])) _
    refine X0.arraylength hx (by rw [e0]; exact Ar301.1) (State.isArrayOf_alike hZ.alike Ar301.2.1) (g := (mkF m 6 #[.val (.ref va), .val (.int (0 : Int32)), .val (.int (Int32.ofNat cs.length))] [(.ref va), (.int (Int32.ofNat cs.length))])) rfl rfl (hb hby d_jdk_65_method_132_code_6) _ ?_
    rw [len_of S301 M301]
    show Steps p.tables e below (s₁.setTop (mkF m 7 #[.val (.ref va), .val (.int (0 : Int32)), .val (.int (Int32.ofNat cs.length))] [(.int (16 : Int32)), (.int (Int32.ofNat cs.length))])) _
    refine XS.icmpNo X0.here hx rfl (hb hby d_jdk_65_method_132_code_7) rfl (feq ((fun q => absurd (own_oinj (i := cs.length) (n := 16) (by omega) (by omega) q) (by omega)) : ¬ ((Int32.ofNat cs.length) = (16 : Int32)))).1 ?_
    show Steps p.tables e below (s₁.setTop (mkF m 10 #[.val (.ref va), .val (.int (0 : Int32)), .val (.int (Int32.ofNat cs.length))] [])) _
    refine XS.aloadN X0.here hx rfl (hb hby d_jdk_65_method_132_code_10) rfl rfl ?_
    show Steps p.tables e below (s₁.setTop (mkF m 11 #[.val (.ref va), .val (.int (0 : Int32)), .val (.int (Int32.ofNat cs.length))] [(.ref va)])) _
    refine XS.iloadN X0.here hx rfl (hb hby d_jdk_65_method_132_code_11) rfl ?_
    show Steps p.tables e below (s₁.setTop (mkF m 12 #[.val (.ref va), .val (.int (0 : Int32)), .val (.int (Int32.ofNat cs.length))] [(.int (0 : Int32)), (.ref va)])) _
    refine XS.iloadN X0.here hx rfl (hb hby d_jdk_65_method_132_code_12) rfl ?_
    show Steps p.tables e below (s₁.setTop (mkF m 13 #[.val (.ref va), .val (.int (0 : Int32)), .val (.int (Int32.ofNat cs.length))] [(.int (Int32.ofNat cs.length)), (.int (0 : Int32)), (.ref va)])) _
    refine st302 _ ?_
    show Steps p.tables e below (T302.setTop (mkF m 16 #[.val (.ref va), .val (.int (0 : Int32)), .val (.int (Int32.ofNat cs.length))] [(.ref tt_302)])) _
    jvm_step X302.here [X302.here.top, hx, (hb hby d_jdk_65_method_132_code_16), X302.method', Bd.returns, Value.isRef, FieldType.isReference]
    first | (intro acts; rw [hr _ acts rfl rfl rfl]) | rw [hr _ _ rfl rfl rfl]
    exact Steps.refl _
  · show Q_cor Z va ka cs h0 n0 _ T302.heap _
    exact ⟨tt_302, kt_302, rfl, N302, ((Keep.refl h0 ([] : List Addr)).trans K302 all0), (Nat.le_trans (Nat.le_refl _) f302_0), f302_1⟩
theorem d_jdk_42_method_150_code_0 : decode jdk_42_method_150_code 0 = .ok (.aload_n 0, 1) := by decide +kernel
theorem d_jdk_42_method_150_code_1 : decode jdk_42_method_150_code 1 = .ok (.invokespecial 1, 3) := by decide +kernel
theorem d_jdk_42_method_150_code_4 : decode jdk_42_method_150_code 4 = .ok (.aload_n 1, 1) := by decide +kernel
theorem d_jdk_42_method_150_code_5 : decode jdk_42_method_150_code 5 = .ok (.invokevirtual 552, 3) := by decide +kernel
theorem pd_13 : parseMethodDescriptor "()[B" = some ⟨[], some (.array .byte)⟩ := by decide +kernel
theorem d_jdk_42_method_150_code_8 : decode jdk_42_method_150_code 8 = .ok (.astore_n 3, 1) := by decide +kernel
theorem d_jdk_42_method_150_code_9 : decode jdk_42_method_150_code 9 = .ok (.aload_n 1, 1) := by decide +kernel
theorem d_jdk_42_method_150_code_10 : decode jdk_42_method_150_code 10 = .ok (.invokevirtual 549, 3) := by decide +kernel
theorem d_jdk_42_method_150_code_13 : decode jdk_42_method_150_code 13 = .ok (.istore 4, 2) := by decide +kernel
theorem d_jdk_42_method_150_code_15 : decode jdk_42_method_150_code 15 = .ok (.aload_n 1, 1) := by decide +kernel
theorem d_jdk_42_method_150_code_16 : decode jdk_42_method_150_code 16 = .ok (.invokevirtual 1047, 3) := by decide +kernel
theorem d_jdk_42_method_150_code_19 : decode jdk_42_method_150_code 19 = .ok (.ifCond .eq 22, 3) := by decide +kernel
theorem d_jdk_42_method_150_code_22 : decode jdk_42_method_150_code 22 = .ok (.aload_n 0, 1) := by decide +kernel
theorem d_jdk_42_method_150_code_23 : decode jdk_42_method_150_code 23 = .ok (.iconst 0, 1) := by decide +kernel
theorem d_jdk_42_method_150_code_24 : decode jdk_42_method_150_code 24 = .ok (.putfield 15, 3) := by decide +kernel
theorem d_jdk_42_method_150_code_27 : decode jdk_42_method_150_code 27 = .ok (.aload_n 0, 1) := by decide +kernel
theorem d_jdk_42_method_150_code_28 : decode jdk_42_method_150_code 28 = .ok (.aload_n 3, 1) := by decide +kernel
theorem d_jdk_42_method_150_code_29 : decode jdk_42_method_150_code 29 = .ok (.iconst 0, 1) := by decide +kernel
theorem d_jdk_42_method_150_code_30 : decode jdk_42_method_150_code 30 = .ok (.iload 4, 2) := by decide +kernel
theorem d_jdk_42_method_150_code_32 : decode jdk_42_method_150_code 32 = .ok (.invokestatic 54, 3) := by decide +kernel
theorem d_jdk_42_method_150_code_35 : decode jdk_42_method_150_code 35 = .ok (.putfield 9, 3) := by decide +kernel
theorem d_jdk_42_method_150_code_38 : decode jdk_42_method_150_code 38 = .ok (.goto 59, 3) := by decide +kernel
theorem d_jdk_42_method_150_code_97 : decode jdk_42_method_150_code 97 = .ok (.return_, 1) := by decide +kernel
theorem ef_11 (m : MethodId) (x0 : Addr) (x1 : Addr) : entryFrame m #[(.ref x0), (.ref x1), .null] 5 = mkF m 0 #[.val (.ref x0), .val (.ref x1), .val .null, .unset, .unset] [] := by first | (simp [entryFrame, mkF, argsToLocals, Value.category]; done) | rfl
def Q_strASB (Z : State) (xs : Addr) (xb : Addr) (va : Addr) (ka : ClassId) (cs : List Int32) (G : Int32) (h0 : Heap) (n0 : Nat) (v : Option Value) (h : Heap) (L : List Loc) : Prop := ∃ (tt : Addr) (kt : ClassId), (v = none) ∧ (Fr n0 L) ∧ (Keep h0 h ([xs] : List Addr)) ∧ (Fld Z h xs "java/lang/String" "value" "[B" (.ref tt)) ∧ (Fld Z h xs "java/lang/String" "coder" "B" (.int (0 : Int32))) ∧ (h0.size ≤ tt) ∧ (Arv Z h tt kt .byte (Int32.ofNat cs.length) (own_bs cs) (.int (0 : Int32)))
set_option maxRecDepth 65536 in
set_option maxHeartbeats 40000000 in
theorem rm_strASB (l : Launch) (Z : State) (a0 : Array Value) (hw : ∀ d ∈ tables_1, d.before a0 Z = true) (ws : List Jvm.Cond) (xs : Addr) (xb : Addr) (va : Addr) (ka : ClassId) (cs : List Int32) (G : Int32) (h0 : Heap) (n0 : Nat) (Z0 : n0 ≤ h0.size) (q0 : Sta Z Z.heap "java/lang/String" "COMPACT_STRINGS" "Z" (.int G)) (hCS : ¬ (G = (0 : Int32))) (q2 : Old Z n0 h0) (q3 : Exa Z h0 xb "java/lang/StringBuilder") (q4 : Fld Z h0 xb "java/lang/AbstractStringBuilder" "value" "[B" (.ref va)) (q5 : Fld Z h0 xb "java/lang/AbstractStringBuilder" "coder" "B" (.int (0 : Int32))) (q6 : Fld Z h0 xb "java/lang/AbstractStringBuilder" "count" "I" (.int (Int32.ofNat cs.length))) (q7 : Arv Z h0 va ka .byte (16 : Int32) (own_bv cs) (.int (0 : Int32))) (hlt : cs.length < 16) (q9 : Exa Z h0 xs "java/lang/String") (q10 : Fld Z h0 xs "java/lang/String" "value" "[B" .null) (q11 : Fld Z h0 xs "java/lang/String" "coder" "B" (.int (0 : Int32))) (q12 : n0 ≤ xs) (q13 : xb ≠ xs) (q14 : va ≠ xs) :
    MetFree l (⟨"java/lang/String", "<init>", "(Ljava/lang/AbstractStringBuilder;Ljava/lang/Void;)V"⟩ : MethodName) (head1 (Jvm.Cond.code (⟨"java/lang/String", "<init>", "(Ljava/lang/AbstractStringBuilder;Ljava/lang/Void;)V"⟩ : MethodName) jdk_42_method_150_code 5 none :: ws) ({ frames := 3, cells := 1, slots := 16, locals := 49 } : Room)) (fun a₁ U₁ => a₁ = #[(.ref xs), (.ref xb), .null] ∧ Z.Warmed39 U₁.vm ∧ U₁.heap = h0) (fun _ _ _ _ _ => True) (fun _ U₁ o₁ U₂ => ∃ v₁ L₁, o₁ = .returned v₁ ∧ Q_strASB Z xs xb va ka cs G h0 n0 v₁ U₂.heap L₁ ∧ FrameEnd U₁ o₁ U₂ L₁ ({ frames := 3, cells := 1, slots := 16, locals := 49 } : Room).cells ({ frames := 3, cells := 1, slots := 16, locals := 49 } : Room).slots) := by
  refine MetFree.of_bodySF (plainFor_of_name pn_1) hisR ?_
  intro p e s m args below meth c s₁ Bd hml0 hP hK
  obtain ⟨rfl, hZ, hh⟩ := hP
  have hx := Bd.exec
  have hby := Bd.bytes
  have hml : c.maxLocals = 5 := hml0
  have hown : s.vm.findClass "java/lang/String" = some m.cls := findClass_of_methodNamed Bd.named
  have hnm := (name_of_methodNamed Bd.named Bd.method).1
  have X0 : Stand p l e ({ frames := 3, cells := 1, slots := 16, locals := 49 } : Room) s m #[(.ref xs), (.ref xb), .null] below meth c s₁ [] 0 0 := Stand.of_body Bd
  have e0 : s₁.heap = h0 := by rw [← hh, Bd.state]; rfl
  have N0 := Fr.nil n0
  have pre0 : ∀ t, Steps p.tables e below (s₁.setTop (mkF m 0 #[.val (.ref xs), .val (.ref xb), .val .null, .unset, .unset] [])) t → Steps p.tables e below (s₁.setTop (entryFrame m #[(.ref xs), (.ref xb), .null] 5)) t := fun t k => castTop (ef_11 m xs xb) k
  obtain ⟨T301, X301, e301, st301⟩ := initO X0 hx hZ hown (hw _ (List.mem_of_getElem? (i := 18) rfl)) (hw _ (List.mem_of_getElem? (i := 19) rfl)) (hw _ (List.mem_of_getElem? (i := 20) rfl)) e0 (g := (mkF m 1 #[.val (.ref xs), .val (.ref xb), .val .null, .unset, .unset] [(.ref xs)])) rfl (by rw [hml]; rfl) rfl (hb hby d_jdk_42_method_150_code_1) (by decide) (W := 0) (by show 2 * 0 + _ ≤ _; exact Nat.le_of_eq rfl) (by decide)
  obtain ⟨cq302, kq302, q302a, q302b, q302c⟩ := isOf hZ e301 q3
  obtain ⟨_, _, ⟨T302, L302, k302, n302⟩, -, X302, ⟨Lc302, hQ302, l302, y302, z302⟩, st302⟩ := X301.virtualBack hx (y := (⟨"java/lang/AbstractStringBuilder", "getValue", "()[B"⟩ : MethodName)) (z := (⟨"java/lang/AbstractStringBuilder", "getValue", "()[B"⟩ : MethodName)) hown (mvT hZ (hw _ (List.mem_of_getElem? (i := 205) rfl))) (mvT hZ (hw _ (List.mem_of_getElem? (i := 206) rfl))) (notFace_of_selects (args := #[]) (mvT hZ (hw _ (List.mem_of_getElem? (i := 208) rfl)))) (mvT hZ (hw _ (List.mem_of_getElem? (i := 208) rfl))) (mvT hZ (hw _ (List.mem_of_getElem? (i := 207) rfl))) (by decide) (backOf (W := 0) (rm_gval l Z a0 hw [] xb va h0 n0 Z0 q4) hZ (hw _ (List.mem_of_getElem? (i := 209) rfl)) (hw _ (List.mem_of_getElem? (i := 130) rfl)) (by decide) (by decide)) q302a q302c (g := (mkF m 5 #[.val (.ref xs), .val (.ref xb), .val .null, .unset, .unset] [(.ref xb)])) rfl (by rw [hml]; rfl) (Steps.refl _) (argsL := []) (rest := []) (lenOf pd_13 rfl) rfl (by show 2 * 0 + _ ≤ _; exact Nat.le_of_eq rfl) (hb hby d_jdk_42_method_150_code_5) (fun _ _ => ⟨rfl, e301, (by decide : 0 + 0 ≤ _), (by decide : 0 + 0 ≤ _)⟩)
  dsimp only [Pt.U, Pt.locs, Pt.cells, Pt.slots] at X302 l302 y302 z302 st302 hQ302
  subst l302 y302 z302
  obtain ⟨rfl, Nq302, e302⟩ := hQ302
  have N302 := Fr.app N0 Nq302
  obtain ⟨cq303, kq303, q303a, q303b, q303c⟩ := isOf hZ e302 q3
  obtain ⟨_, _, ⟨T303, L303, k303, n303⟩, -, X303, ⟨Lc303, hQ303, l303, y303, z303⟩, st303⟩ := X302.virtualBack hx (y := (⟨"java/lang/AbstractStringBuilder", "length", "()I"⟩ : MethodName)) (z := (⟨"java/lang/StringBuilder", "length", "()I"⟩ : MethodName)) hown (mvT hZ (hw _ (List.mem_of_getElem? (i := 210) rfl))) (mvT hZ (hw _ (List.mem_of_getElem? (i := 211) rfl))) (own_notface (args := #[]) (z := (⟨"java/lang/AbstractStringBuilder", "ensureCapacityInternal", "(I)V"⟩ : MethodName)) rfl (mvT hZ (hw _ (List.mem_of_getElem? (i := 154) rfl)))) (mvT hZ (hw _ (List.mem_of_getElem? (i := 213) rfl))) (mvT hZ (hw _ (List.mem_of_getElem? (i := 214) rfl))) (by decide) (backOf (W := 0) (rm_blen l Z a0 hw [] xb (Int32.ofNat cs.length) h0 n0 Z0 q3 q6) hZ (hw _ (List.mem_of_getElem? (i := 215) rfl)) (hw _ (List.mem_of_getElem? (i := 122) rfl)) (by decide) (by decide)) q303a q303c (g := (mkF m 10 #[.val (.ref xs), .val (.ref xb), .val .null, .val (.ref va), .unset] [(.ref xb)])) rfl (by rw [hml]; rfl) (Steps.refl _) (argsL := []) (rest := []) (lenOf pd_0 rfl) rfl (by show 2 * 0 + _ ≤ _; exact Nat.le_of_eq rfl) (hb hby d_jdk_42_method_150_code_10) (fun _ _ => ⟨rfl, e302, (by decide : 0 + 0 ≤ _), (by decide : 0 + 0 ≤ _)⟩)
  dsimp only [Pt.U, Pt.locs, Pt.cells, Pt.slots] at X303 l303 y303 z303 st303 hQ303
  subst l303 y303 z303
  obtain ⟨rfl, Nq303, e303⟩ := hQ303
  have N303 := Fr.app N302 Nq303
  obtain ⟨cq304, kq304, q304a, q304b, q304c⟩ := isOf hZ e303 q3
  obtain ⟨_, _, ⟨T304, L304, k304, n304⟩, -, X304, ⟨Lc304, hQ304, l304, y304, z304⟩, st304⟩ := X303.virtualBack hx (y := (⟨"java/lang/AbstractStringBuilder", "isLatin1", "()Z"⟩ : MethodName)) (z := (⟨"java/lang/AbstractStringBuilder", "isLatin1", "()Z"⟩ : MethodName)) hown (mvT hZ (hw _ (List.mem_of_getElem? (i := 218) rfl))) (mvT hZ (hw _ (List.mem_of_getElem? (i := 186) rfl))) (notFace_of_selects (args := #[]) (mvT hZ (hw _ (List.mem_of_getElem? (i := 188) rfl)))) (mvT hZ (hw _ (List.mem_of_getElem? (i := 188) rfl))) (mvT hZ (hw _ (List.mem_of_getElem? (i := 187) rfl))) (by decide) (backOf (W := 0) (rm_bLat l Z a0 hw [] xb G h0 n0 Z0 q0 hCS q2 q5) hZ (hw _ (List.mem_of_getElem? (i := 189) rfl)) (hw _ (List.mem_of_getElem? (i := 130) rfl)) (by decide) (by decide)) q304a q304c (g := (mkF m 16 #[.val (.ref xs), .val (.ref xb), .val .null, .val (.ref va), .val (.int (Int32.ofNat cs.length))] [(.ref xb)])) rfl (by rw [hml]; rfl) (Steps.refl _) (argsL := []) (rest := []) (lenOf pd_7 rfl) rfl (by show 2 * 0 + _ ≤ _; exact Nat.le_of_eq rfl) (hb hby d_jdk_42_method_150_code_16) (fun _ _ => ⟨rfl, e303, (by decide : 0 + 0 ≤ _), (by decide : 0 + 0 ≤ _)⟩)
  dsimp only [Pt.U, Pt.locs, Pt.cells, Pt.slots] at X304 l304 y304 z304 st304 hQ304
  subst l304 y304 z304
  obtain ⟨rfl, Nq304, e304⟩ := hQ304
  have N304 := Fr.app N303 Nq304
  obtain ⟨T305, h305, X305, e305, W305, st305⟩ := putFN X304 hx hZ hown (hw _ (List.mem_of_getElem? (i := 28) rfl)) Via.refl e304 q11 q9 (Or.inr ⟨(hw _ (List.mem_of_getElem? (i := 24) rfl)), rfl, hnm⟩) (hw _ (List.mem_of_getElem? (i := 9) rfl)) (ty := .byte) (v' := (.int (0 : Int32))) (by decide) rfl rfl (g := (mkF m 24 #[.val (.ref xs), .val (.ref xb), .val .null, .val (.ref va), .val (.int (Int32.ofNat cs.length))] [(.int (0 : Int32)), (.ref xs)])) rfl rfl (hb hby d_jdk_42_method_150_code_24)
  have N305 := Fr.snoc X305 N304 q12
  have F305 : Fld Z h305 xs "java/lang/String" "coder" "B" (.int (0 : Int32)) := q11.same W305
  have c306 : Arv Z h305 va ka .byte (16 : Int32) (own_bv cs) (.int (0 : Int32)) := (q7.other W305 q14)
  obtain ⟨_, _, ⟨T307, L307, k307, n307⟩, -, X307, ⟨Lc307, hQ307, l307, y307, z307⟩, st307⟩ := Jvm.LawKit.callS X305 hx (y := (⟨"java/util/Arrays", "copyOfRange", "([BII)[B"⟩ : MethodName)) hown (mvT hZ (hw _ (List.mem_of_getElem? (i := 219) rfl))) (mvT hZ (hw _ (List.mem_of_getElem? (i := 220) rfl))) (mvT hZ (hw _ (List.mem_of_getElem? (i := 221) rfl))) (mvT hZ (hw _ (List.mem_of_getElem? (i := 222) rfl))) (by decide) (backOf (W := 1) (rm_cor l Z a0 hw [] va ka cs h305 n0 (Nat.le_trans Z0 (Keep.of_wr W305).1) c306 hlt) hZ (hw _ (List.mem_of_getElem? (i := 222) rfl)) (hw _ (List.mem_of_getElem? (i := 221) rfl)) (by decide) (by decide)) (g := (mkF m 32 #[.val (.ref xs), .val (.ref xb), .val .null, .val (.ref va), .val (.int (Int32.ofNat cs.length))] [(.int (Int32.ofNat cs.length)), (.int (0 : Int32)), (.ref va), (.ref xs)])) rfl (by rw [hml]; rfl) (argsL := [(.ref va), (.int (0 : Int32)), (.int (Int32.ofNat cs.length))]) (rest := [(.ref xs)]) (lenOf pd_12 rfl) rfl (by show 2 * 0 + _ ≤ _; exact Nat.le_of_eq rfl) (hb hby d_jdk_42_method_150_code_32) (fun _ _ => ⟨rfl, e305, (by decide : 0 + 1 ≤ _), (by decide : 0 + 16 ≤ _)⟩)
  dsimp only [Pt.U, Pt.locs, Pt.cells, Pt.slots] at X307 l307 y307 z307 st307 hQ307
  subst l307 y307 z307
  obtain ⟨tt_307, kt_307, rfl, Nq307, K307, f307_0, f307_1⟩ := hQ307
  have N307 := Fr.app N305 Nq307
  have c308 : Fld Z T307.heap xs "java/lang/String" "value" "[B" .null := ((q10.other W305 (Or.inr (slot_ne (Or.inr (hw _ (List.mem_of_getElem? (i := 23) rfl))) (Or.inr (hw _ (List.mem_of_getElem? (i := 24) rfl))) (by decide) (t := (.array .byte)) (t' := .byte) (by decide) (by decide)))).keep K307 nin0)
  have c309 : Exa Z T307.heap xs "java/lang/String" := ((q9.wr W305).keep K307)
  obtain ⟨T310, h310, X310, e310, W310, st310⟩ := putF X307 hx hZ hown (host := "") (Or.inl (hw _ (List.mem_of_getElem? (i := 27) rfl))) Via.refl rfl c308 c309 (Or.inr ⟨(hw _ (List.mem_of_getElem? (i := 23) rfl)), rfl, hnm⟩) (hw _ (List.mem_of_getElem? (i := 9) rfl)) (ty := (.array .byte)) (by decide) rfl rfl (g := (mkF m 35 #[.val (.ref xs), .val (.ref xb), .val .null, .val (.ref va), .val (.int (Int32.ofNat cs.length))] [(.ref tt_307), (.ref xs)])) rfl rfl (hb hby d_jdk_42_method_150_code_35)
  have N310 := Fr.snoc X310 N307 q12
  have F310 : Fld Z h310 xs "java/lang/String" "value" "[B" (.ref tt_307) := c308.same W310
  have ne311 : xs ≠ tt_307 := Nat.ne_of_lt (Nat.lt_of_lt_of_le F305.lt f307_0)
  have c312 : Arv Z h310 tt_307 kt_307 .byte (Int32.ofNat cs.length) (own_bs cs) (.int (0 : Int32)) := (f307_1.other W310 (Ne.symm ne311))
  have c313 : Fld Z h310 xs "java/lang/String" "coder" "B" (.int (0 : Int32)) := ((F305.keep K307 nin0).other W310 (Or.inr (slot_ne (Or.inr (hw _ (List.mem_of_getElem? (i := 24) rfl))) (Or.inr (hw _ (List.mem_of_getElem? (i := 23) rfl))) (by decide) (t := .byte) (t' := (.array .byte)) (by decide) (by decide))))
  obtain ⟨fs, hr, hrun, hended, hW, hsame⟩ := X310.leave (v := none) (fun _ => rfl)
  refine ⟨_, _, pre0 _ ?_, hrun, hended, _, _, rfl, ?_, ⟨_, rfl⟩, hW, hsame.mono (by decide) (by decide)⟩
  · refine XS.aloadN X0.here hx rfl (hb hby d_jdk_42_method_150_code_0) rfl rfl ?_
    show Steps p.tables e below (s₁.setTop (mkF m 1 #[.val (.ref xs), .val (.ref xb), .val .null, .unset, .unset] [(.ref xs)])) _
    refine st301 _ ?_
    show Steps p.tables e below (T301.setTop (mkF m 4 #[.val (.ref xs), .val (.ref xb), .val .null, .unset, .unset] [])) _
    refine XS.aloadN X301.here hx rfl (hb hby d_jdk_42_method_150_code_4) rfl rfl ?_
    show Steps p.tables e below (T301.setTop (mkF m 5 #[.val (.ref xs), .val (.ref xb), .val .null, .unset, .unset] [(.ref xb)])) _
    refine st302.trans ?_
    show Steps p.tables e below (T302.setTop (mkF m 8 #[.val (.ref xs), .val (.ref xb), .val .null, .unset, .unset] [(.ref va)])) _
    refine XS.astoreN X302.here hx rfl (hb hby d_jdk_42_method_150_code_8) rfl rfl (l' := #[.val (.ref xs), .val (.ref xb), .val .null, .val (.ref va), .unset]) rfl ?_
    show Steps p.tables e below (T302.setTop (mkF m 9 #[.val (.ref xs), .val (.ref xb), .val .null, .val (.ref va), .unset] [])) _
    refine XS.aloadN X302.here hx rfl (hb hby d_jdk_42_method_150_code_9) rfl rfl ?_
    show Steps p.tables e below (T302.setTop (mkF m 10 #[.val (.ref xs), .val (.ref xb), .val .null, .val (.ref va), .unset] [(.ref xb)])) _
    refine st303.trans ?_
    show Steps p.tables e below (T303.setTop (mkF m 13 #[.val (.ref xs), .val (.ref xb), .val .null, .val (.ref va), .unset] [(.int (Int32.ofNat cs.length))])) _
    refine XS.istore X303.here hx rfl (hb hby d_jdk_42_method_150_code_13) rfl (l' := #[.val (.ref xs), .val (.ref xb), .val .null, .val (.ref va), .val (.int (Int32.ofNat cs.length))]) rfl ?_
    show Steps p.tables e below (T303.setTop (mkF m 15 #[.val (.ref xs), .val (.ref xb), .val .null, .val (.ref va), .val (.int (Int32.ofNat cs.length))] [])) _
    refine XS.aloadN X303.here hx rfl (hb hby d_jdk_42_method_150_code_15) rfl rfl ?_
    show Steps p.tables e below (T303.setTop (mkF m 16 #[.val (.ref xs), .val (.ref xb), .val .null, .val (.ref va), .val (.int (Int32.ofNat cs.length))] [(.ref xb)])) _
    refine st304.trans ?_
    show Steps p.tables e below (T304.setTop (mkF m 19 #[.val (.ref xs), .val (.ref xb), .val .null, .val (.ref va), .val (.int (Int32.ofNat cs.length))] [(.int (1 : Int32))])) _
    refine XS.ifNo X304.here hx rfl (hb hby d_jdk_42_method_150_code_19) rfl ((if0 _ _).trans (feq ((by decide) : ¬ ((1 : Int32) = (0 : Int32)))).1) ?_
    show Steps p.tables e below (T304.setTop (mkF m 22 #[.val (.ref xs), .val (.ref xb), .val .null, .val (.ref va), .val (.int (Int32.ofNat cs.length))] [])) _
    refine XS.aloadN X304.here hx rfl (hb hby d_jdk_42_method_150_code_22) rfl rfl ?_
    show Steps p.tables e below (T304.setTop (mkF m 23 #[.val (.ref xs), .val (.ref xb), .val .null, .val (.ref va), .val (.int (Int32.ofNat cs.length))] [(.ref xs)])) _
    refine XS.iconst X304.here hx rfl (hb hby d_jdk_42_method_150_code_23) ?_
    show Steps p.tables e below (T304.setTop (mkF m 24 #[.val (.ref xs), .val (.ref xb), .val .null, .val (.ref va), .val (.int (Int32.ofNat cs.length))] [(.int (0 : Int32)), (.ref xs)])) _
    refine st305 _ ?_
    show Steps p.tables e below (T305.setTop (mkF m 27 #[.val (.ref xs), .val (.ref xb), .val .null, .val (.ref va), .val (.int (Int32.ofNat cs.length))] [])) _
    refine XS.aloadN X305.here hx rfl (hb hby d_jdk_42_method_150_code_27) rfl rfl ?_
    show Steps p.tables e below (T305.setTop (mkF m 28 #[.val (.ref xs), .val (.ref xb), .val .null, .val (.ref va), .val (.int (Int32.ofNat cs.length))] [(.ref xs)])) _
    refine XS.aloadN X305.here hx rfl (hb hby d_jdk_42_method_150_code_28) rfl rfl ?_
    show Steps p.tables e below (T305.setTop (mkF m 29 #[.val (.ref xs), .val (.ref xb), .val .null, .val (.ref va), .val (.int (Int32.ofNat cs.length))] [(.ref va), (.ref xs)])) _
    refine XS.iconst X305.here hx rfl (hb hby d_jdk_42_method_150_code_29) ?_
    show Steps p.tables e below (T305.setTop (mkF m 30 #[.val (.ref xs), .val (.ref xb), .val .null, .val (.ref va), .val (.int (Int32.ofNat cs.length))] [(.int (0 : Int32)), (.ref va), (.ref xs)])) _
    refine XS.iload X305.here hx rfl (hb hby d_jdk_42_method_150_code_30) rfl ?_
    show Steps p.tables e below (T305.setTop (mkF m 32 #[.val (.ref xs), .val (.ref xb), .val .null, .val (.ref va), .val (.int (Int32.ofNat cs.length))] [(.int (Int32.ofNat cs.length)), (.int (0 : Int32)), (.ref va), (.ref xs)])) _
    refine st307 _ ?_
    show Steps p.tables e below (T307.setTop (mkF m 35 #[.val (.ref xs), .val (.ref xb), .val .null, .val (.ref va), .val (.int (Int32.ofNat cs.length))] [(.ref tt_307), (.ref xs)])) _
    refine st310 _ ?_
    show Steps p.tables e below (T310.setTop (mkF m 38 #[.val (.ref xs), .val (.ref xb), .val .null, .val (.ref va), .val (.int (Int32.ofNat cs.length))] [])) _
    refine XS.goto X310.here hx rfl (pc0 := 38) (pc' := 97) rfl (hb hby d_jdk_42_method_150_code_38) (by decide) (by decide) ?_
    show Steps p.tables e below (T310.setTop (mkF m 97 #[.val (.ref xs), .val (.ref xb), .val .null, .val (.ref va), .val (.int (Int32.ofNat cs.length))] [])) _
    exact X310.returnOut hx Bd.returns (hb hby d_jdk_42_method_150_code_97) hr
  · show Q_strASB Z xs xb va ka cs G h0 n0 _ T310.heap _
    rw [e310]
    exact ⟨tt_307, kt_307, rfl, N310, ((((Keep.refl h0 ([xs] : List Addr)).wr W305 (Or.inl (by simp))).trans K307 all0).wr W310 (Or.inl (by simp))), F310, c313, (Nat.le_trans (Keep.of_wr W305).1 f307_0), c312⟩
theorem d_jdk_42_method_53_code_0 : decode jdk_42_method_53_code 0 = .ok (.aload_n 0, 1) := by decide +kernel
theorem d_jdk_42_method_53_code_1 : decode jdk_42_method_53_code 1 = .ok (.aload_n 1, 1) := by decide +kernel
theorem d_jdk_42_method_53_code_2 : decode jdk_42_method_53_code 2 = .ok (.aconst_null, 1) := by decide +kernel
theorem d_jdk_42_method_53_code_3 : decode jdk_42_method_53_code 3 = .ok (.invokespecial 489, 3) := by decide +kernel
theorem pd_14 : parseMethodDescriptor "(Ljava/lang/AbstractStringBuilder;Ljava/lang/Void;)V" = some ⟨[(.object "java/lang/AbstractStringBuilder"), (.object "java/lang/Void")], none⟩ := by decide +kernel
theorem d_jdk_42_method_53_code_6 : decode jdk_42_method_53_code 6 = .ok (.return_, 1) := by decide +kernel
def Q_strSB (Z : State) (xs : Addr) (xb : Addr) (va : Addr) (ka : ClassId) (cs : List Int32) (G : Int32) (h0 : Heap) (n0 : Nat) (v : Option Value) (h : Heap) (L : List Loc) : Prop := ∃ (tt : Addr) (kt : ClassId), (v = none) ∧ (Fr n0 L) ∧ (Keep h0 h ([xs] : List Addr)) ∧ (Fld Z h xs "java/lang/String" "value" "[B" (.ref tt)) ∧ (Fld Z h xs "java/lang/String" "coder" "B" (.int (0 : Int32))) ∧ (h0.size ≤ tt) ∧ (Arv Z h tt kt .byte (Int32.ofNat cs.length) (own_bs cs) (.int (0 : Int32)))
set_option maxRecDepth 65536 in
set_option maxHeartbeats 40000000 in
theorem rm_strSB (l : Launch) (Z : State) (a0 : Array Value) (hw : ∀ d ∈ tables_1, d.before a0 Z = true) (ws : List Jvm.Cond) (xs : Addr) (xb : Addr) (va : Addr) (ka : ClassId) (cs : List Int32) (G : Int32) (h0 : Heap) (n0 : Nat) (Z0 : n0 ≤ h0.size) (q0 : Sta Z Z.heap "java/lang/String" "COMPACT_STRINGS" "Z" (.int G)) (hCS : ¬ (G = (0 : Int32))) (q2 : Old Z n0 h0) (q3 : Exa Z h0 xb "java/lang/StringBuilder") (q4 : Fld Z h0 xb "java/lang/AbstractStringBuilder" "value" "[B" (.ref va)) (q5 : Fld Z h0 xb "java/lang/AbstractStringBuilder" "coder" "B" (.int (0 : Int32))) (q6 : Fld Z h0 xb "java/lang/AbstractStringBuilder" "count" "I" (.int (Int32.ofNat cs.length))) (q7 : Arv Z h0 va ka .byte (16 : Int32) (own_bv cs) (.int (0 : Int32))) (hlt : cs.length < 16) (q9 : Exa Z h0 xs "java/lang/String") (q10 : Fld Z h0 xs "java/lang/String" "value" "[B" .null) (q11 : Fld Z h0 xs "java/lang/String" "coder" "B" (.int (0 : Int32))) (q12 : n0 ≤ xs) (q13 : xb ≠ xs) (q14 : va ≠ xs) :
    MetFree l (⟨"java/lang/String", "<init>", "(Ljava/lang/StringBuilder;)V"⟩ : MethodName) (head1 (Jvm.Cond.code (⟨"java/lang/String", "<init>", "(Ljava/lang/StringBuilder;)V"⟩ : MethodName) jdk_42_method_53_code 2 none :: ws) ({ frames := 4, cells := 1, slots := 16, locals := 65 } : Room)) (fun a₁ U₁ => a₁ = #[(.ref xs), (.ref xb)] ∧ Z.Warmed39 U₁.vm ∧ U₁.heap = h0) (fun _ _ _ _ _ => True) (fun _ U₁ o₁ U₂ => ∃ v₁ L₁, o₁ = .returned v₁ ∧ Q_strSB Z xs xb va ka cs G h0 n0 v₁ U₂.heap L₁ ∧ FrameEnd U₁ o₁ U₂ L₁ ({ frames := 4, cells := 1, slots := 16, locals := 65 } : Room).cells ({ frames := 4, cells := 1, slots := 16, locals := 65 } : Room).slots) := by
  refine MetFree.of_bodySF (plainFor_of_name pn_1) hisR ?_
  intro p e s m args below meth c s₁ Bd hml0 hP hK
  obtain ⟨rfl, hZ, hh⟩ := hP
  have hx := Bd.exec
  have hby := Bd.bytes
  have hml : c.maxLocals = 2 := hml0
  have hown : s.vm.findClass "java/lang/String" = some m.cls := findClass_of_methodNamed Bd.named
  have hnm := (name_of_methodNamed Bd.named Bd.method).1
  have X0 : Stand p l e ({ frames := 4, cells := 1, slots := 16, locals := 65 } : Room) s m #[(.ref xs), (.ref xb)] below meth c s₁ [] 0 0 := Stand.of_body Bd
  have e0 : s₁.heap = h0 := by rw [← hh, Bd.state]; rfl
  have N0 := Fr.nil n0
  have pre0 : ∀ t, Steps p.tables e below (s₁.setTop (mkF m 0 #[.val (.ref xs), .val (.ref xb)] [])) t → Steps p.tables e below (s₁.setTop (entryFrame m #[(.ref xs), (.ref xb)] 2)) t := fun t k => castTop (ef_5 m xs xb) k
  obtain ⟨_, _, ⟨T301, L301, k301, n301⟩, -, X301, ⟨Lc301, hQ301, l301, y301, z301⟩, st301⟩ := X0.specialBack hx (y := (⟨"java/lang/String", "<init>", "(Ljava/lang/AbstractStringBuilder;Ljava/lang/Void;)V"⟩ : MethodName)) rfl hown (mvT hZ (hw _ (List.mem_of_getElem? (i := 202) rfl))) (mvT hZ (hw _ (List.mem_of_getElem? (i := 203) rfl))) (mvT hZ (hw _ (List.mem_of_getElem? (i := 204) rfl))) (by decide) (backOf (W := 0) (rm_strASB l Z a0 hw [] xs xb va ka cs G h0 n0 Z0 q0 hCS q2 q3 q4 q5 q6 q7 hlt q9 q10 q11 q12 q13 q14) hZ (hw _ (List.mem_of_getElem? (i := 204) rfl)) (hw _ (List.mem_of_getElem? (i := 10) rfl)) (by decide) (by decide)) (g := (mkF m 3 #[.val (.ref xs), .val (.ref xb)] [.null, (.ref xb), (.ref xs)])) rfl (by rw [hml]; rfl) (Steps.refl _) (a := xs) (argsL := [(.ref xb), .null]) (rest := []) (lenOf pd_14 rfl) rfl (by show 2 * 0 + _ ≤ _; exact Nat.le_of_eq rfl) (hb hby d_jdk_42_method_53_code_3) (fun _ _ => ⟨rfl, e0, (by decide : 0 + 1 ≤ _), (by decide : 0 + 16 ≤ _)⟩)
  dsimp only [Pt.U, Pt.locs, Pt.cells, Pt.slots] at X301 l301 y301 z301 st301 hQ301
  subst l301 y301 z301
  obtain ⟨tt_301, kt_301, rfl, Nq301, K301, f301_0, f301_1, f301_2, f301_3⟩ := hQ301
  have N301 := Fr.app N0 Nq301
  obtain ⟨fs, hr, hrun, hended, hW, hsame⟩ := X301.leave (v := none) (fun _ => rfl)
  refine ⟨_, _, pre0 _ ?_, hrun, hended, _, _, rfl, ?_, ⟨_, rfl⟩, hW, hsame.mono (by decide) (by decide)⟩
  · refine XS.aloadN X0.here hx rfl (hb hby d_jdk_42_method_53_code_0) rfl rfl ?_
    show Steps p.tables e below (s₁.setTop (mkF m 1 #[.val (.ref xs), .val (.ref xb)] [(.ref xs)])) _
    refine XS.aloadN X0.here hx rfl (hb hby d_jdk_42_method_53_code_1) rfl rfl ?_
    show Steps p.tables e below (s₁.setTop (mkF m 2 #[.val (.ref xs), .val (.ref xb)] [(.ref xb), (.ref xs)])) _
    refine XS.aconstNull X0.here hx rfl (hb hby d_jdk_42_method_53_code_2) ?_
    show Steps p.tables e below (s₁.setTop (mkF m 3 #[.val (.ref xs), .val (.ref xb)] [.null, (.ref xb), (.ref xs)])) _
    refine st301.trans ?_
    show Steps p.tables e below (T301.setTop (mkF m 6 #[.val (.ref xs), .val (.ref xb)] [])) _
    exact X301.returnOut hx Bd.returns (hb hby d_jdk_42_method_53_code_6) hr
  · show Q_strSB Z xs xb va ka cs G h0 n0 _ T301.heap _
    exact ⟨tt_301, kt_301, rfl, N301, ((Keep.refl h0 ([xs] : List Addr)).trans K301 (allS (Or.inl (by simp)) all0)), f301_0, f301_1, (Nat.le_trans (Nat.le_refl _) f301_2), f301_3⟩
theorem d_jdk_67_method_42_code_0 : decode jdk_67_method_42_code 0 = .ok (.new 18, 3) := by decide +kernel
theorem d_jdk_67_method_42_code_3 : decode jdk_67_method_42_code 3 = .ok (.dup, 1) := by decide +kernel
theorem d_jdk_67_method_42_code_4 : decode jdk_67_method_42_code 4 = .ok (.aload_n 0, 1) := by decide +kernel
theorem d_jdk_67_method_42_code_5 : decode jdk_67_method_42_code 5 = .ok (.invokespecial 137, 3) := by decide +kernel
theorem pd_15 : parseMethodDescriptor "(Ljava/lang/StringBuilder;)V" = some ⟨[(.object "java/lang/StringBuilder")], none⟩ := by decide +kernel
theorem d_jdk_67_method_42_code_8 : decode jdk_67_method_42_code 8 = .ok (.areturn, 1) := by decide +kernel
def Q_toStr (Z : State) (xb : Addr) (va : Addr) (ka : ClassId) (cs : List Int32) (G : Int32) (h0 : Heap) (n0 : Nat) (v : Option Value) (h : Heap) (L : List Loc) : Prop := ∃ (xr : Addr) (tt : Addr) (kt : ClassId), (v = some (.ref xr)) ∧ (Fr n0 L) ∧ (Keep h0 h ([] : List Addr)) ∧ (h0.size ≤ xr) ∧ (Exa Z h xr "java/lang/String") ∧ (Fld Z h xr "java/lang/String" "value" "[B" (.ref tt)) ∧ (Fld Z h xr "java/lang/String" "coder" "B" (.int (0 : Int32))) ∧ (h0.size ≤ tt) ∧ (Arv Z h tt kt .byte (Int32.ofNat cs.length) (own_bs cs) (.int (0 : Int32)))
set_option maxRecDepth 65536 in
set_option maxHeartbeats 40000000 in
theorem rm_toStr (l : Launch) (Z : State) (a0 : Array Value) (hw : ∀ d ∈ tables_1, d.before a0 Z = true) (ws : List Jvm.Cond) (xb : Addr) (va : Addr) (ka : ClassId) (cs : List Int32) (G : Int32) (h0 : Heap) (n0 : Nat) (Z0 : n0 ≤ h0.size) (q0 : Sta Z Z.heap "java/lang/String" "COMPACT_STRINGS" "Z" (.int G)) (hCS : ¬ (G = (0 : Int32))) (q2 : Old Z n0 h0) (q3 : Exa Z h0 xb "java/lang/StringBuilder") (q4 : Fld Z h0 xb "java/lang/AbstractStringBuilder" "value" "[B" (.ref va)) (q5 : Fld Z h0 xb "java/lang/AbstractStringBuilder" "coder" "B" (.int (0 : Int32))) (q6 : Fld Z h0 xb "java/lang/AbstractStringBuilder" "count" "I" (.int (Int32.ofNat cs.length))) (q7 : Arv Z h0 va ka .byte (16 : Int32) (own_bv cs) (.int (0 : Int32))) (hlt : cs.length < 16) :
    MetFree l (⟨"java/lang/StringBuilder", "toString", "()Ljava/lang/String;"⟩ : MethodName) (head1 (Jvm.Cond.code (⟨"java/lang/StringBuilder", "toString", "()Ljava/lang/String;"⟩ : MethodName) jdk_67_method_42_code 1 (some (.object "java/lang/String")) :: ws) ({ frames := 5, cells := 2, slots := 20, locals := 79 } : Room)) (fun a₁ U₁ => a₁ = #[(.ref xb)] ∧ Z.Warmed39 U₁.vm ∧ U₁.heap = h0) (fun _ _ _ _ _ => True) (fun _ U₁ o₁ U₂ => ∃ v₁ L₁, o₁ = .returned v₁ ∧ Q_toStr Z xb va ka cs G h0 n0 v₁ U₂.heap L₁ ∧ FrameEnd U₁ o₁ U₂ L₁ ({ frames := 5, cells := 2, slots := 20, locals := 79 } : Room).cells ({ frames := 5, cells := 2, slots := 20, locals := 79 } : Room).slots) := by
  refine MetFree.of_bodySF (plainFor_of_name pn_3) hisR ?_
  intro p e s m args below meth c s₁ Bd hml0 hP hK
  obtain ⟨rfl, hZ, hh⟩ := hP
  have hx := Bd.exec
  have hby := Bd.bytes
  have hml : c.maxLocals = 1 := hml0
  have hown : s.vm.findClass "java/lang/StringBuilder" = some m.cls := findClass_of_methodNamed Bd.named
  have hnm := (name_of_methodNamed Bd.named Bd.method).1
  have X0 : Stand p l e ({ frames := 5, cells := 2, slots := 20, locals := 79 } : Room) s m #[(.ref xb)] below meth c s₁ [] 0 0 := Stand.of_body Bd
  have e0 : s₁.heap = h0 := by rw [← hh, Bd.state]; rfl
  have N0 := Fr.nil n0
  have pre0 : ∀ t, Steps p.tables e below (s₁.setTop (mkF m 0 #[.val (.ref xb)] [])) t → Steps p.tables e below (s₁.setTop (entryFrame m #[(.ref xb)] 1)) t := fun t k => castTop (ef_1 m xb) k
  obtain ⟨T301, h301, X301, e301, E301, A301, D301, -, st301⟩ := newO X0 hx hZ hown (hw _ (List.mem_of_getElem? (i := 198) rfl)) (hw _ (List.mem_of_getElem? (i := 9) rfl)) (hw _ (List.mem_of_getElem? (i := 10) rfl)) e0 (g := (mkF m 0 #[.val (.ref xb)] [])) rfl (hb hby d_jdk_67_method_42_code_0) (by decide) (by decide)
  obtain ⟨b301, g301⟩ : ∃ z, z = h0.size := ⟨_, rfl⟩
  rw [← g301] at A301 D301 st301
  have D301_value : Fld Z h301 b301 "java/lang/String" "value" "[B" .null := D301 (Or.inr (hw _ (List.mem_of_getElem? (i := 23) rfl))) (ty := (.array .byte)) (by decide)
  have D301_coder : Fld Z h301 b301 "java/lang/String" "coder" "B" (.int (0 : Int32)) := D301 (Or.inr (hw _ (List.mem_of_getElem? (i := 24) rfl))) (ty := .byte) (by decide)
  have c302 : Old Z n0 h301 := (q2.ext E301)
  have c303 : Exa Z h301 xb "java/lang/StringBuilder" := (q3.ext E301)
  have c304 : Fld Z h301 xb "java/lang/AbstractStringBuilder" "value" "[B" (.ref va) := (q4.ext E301)
  have c305 : Fld Z h301 xb "java/lang/AbstractStringBuilder" "coder" "B" (.int (0 : Int32)) := (q5.ext E301)
  have c306 : Fld Z h301 xb "java/lang/AbstractStringBuilder" "count" "I" (.int (Int32.ofNat cs.length)) := (q6.ext E301)
  have c307 : Arv Z h301 va ka .byte (16 : Int32) (own_bv cs) (.int (0 : Int32)) := (q7.ext E301)
  have ge308 : n0 ≤ b301 := Nat.le_trans Z0 (Nat.le_trans (Nat.le_refl _) (Nat.le_of_eq g301.symm))
  have ne309 : xb ≠ b301 := Nat.ne_of_lt (Nat.lt_of_lt_of_le q3.lt (Nat.le_of_eq g301.symm))
  have ne310 : va ≠ b301 := Nat.ne_of_lt (Nat.lt_of_lt_of_le q7.lt (Nat.le_of_eq g301.symm))
  obtain ⟨_, _, ⟨T311, L311, k311, n311⟩, -, X311, ⟨Lc311, hQ311, l311, y311, z311⟩, st311⟩ := X301.specialBack hx (y := (⟨"java/lang/String", "<init>", "(Ljava/lang/StringBuilder;)V"⟩ : MethodName)) rfl hown (mvT hZ (hw _ (List.mem_of_getElem? (i := 199) rfl))) (mvT hZ (hw _ (List.mem_of_getElem? (i := 200) rfl))) (mvT hZ (hw _ (List.mem_of_getElem? (i := 201) rfl))) (by decide) (backOf (W := 1) (rm_strSB l Z a0 hw [] b301 xb va ka cs G h301 n0 (Nat.le_trans Z0 E301.1) q0 hCS c302 c303 c304 c305 c306 c307 hlt A301 D301_value D301_coder ge308 ne309 ne310) hZ (hw _ (List.mem_of_getElem? (i := 201) rfl)) (hw _ (List.mem_of_getElem? (i := 10) rfl)) (by decide) (by decide)) (g := (mkF m 5 #[.val (.ref xb)] [(.ref xb), (.ref b301), (.ref b301)])) rfl (by rw [hml]; rfl) (Steps.refl _) (a := b301) (argsL := [(.ref xb)]) (rest := [(.ref b301)]) (lenOf pd_15 rfl) rfl (by show 2 * 0 + _ ≤ _; exact Nat.le_of_eq rfl) (hb hby d_jdk_67_method_42_code_5) (fun _ _ => ⟨rfl, e301, (by decide : 1 + 1 ≤ _), (by decide : 4 + 16 ≤ _)⟩)
  dsimp only [Pt.U, Pt.locs, Pt.cells, Pt.slots] at X311 l311 y311 z311 st311 hQ311
  subst l311 y311 z311
  obtain ⟨tt_311, kt_311, rfl, Nq311, K311, f311_0, f311_1, f311_2, f311_3⟩ := hQ311
  have N311 := Fr.app N0 Nq311
  have c312 : Exa Z T311.heap b301 "java/lang/String" := (A301.keep K311)
  obtain ⟨fs, hr, hrun, hended, hW, hsame⟩ := X311.leave (v := some (.ref b301)) (fun h => by rw [Bd.returns] at h; cases h)
  refine ⟨_, _, pre0 _ ?_, hrun, hended, _, _, rfl, ?_, ⟨_, rfl⟩, hW, hsame.mono (by decide) (by decide)⟩
  · refine st301 _ ?_
    show Steps p.tables e below (T301.setTop (mkF m 3 #[.val (.ref xb)] [(.ref b301)])) _
    refine XS.dup X301.here hx rfl (hb hby d_jdk_67_method_42_code_3) rfl rfl ?_
    show Steps p.tables e below (T301.setTop (mkF m 4 #[.val (.ref xb)] [(.ref b301), (.ref b301)])) _
    refine XS.aloadN X301.here hx rfl (hb hby d_jdk_67_method_42_code_4) rfl rfl ?_
    show Steps p.tables e below (T301.setTop (mkF m 5 #[.val (.ref xb)] [(.ref xb), (.ref b301), (.ref b301)])) _
    refine st311.trans ?_
    show Steps p.tables e below (T311.setTop (mkF m 8 #[.val (.ref xb)] [(.ref b301)])) _
    jvm_step X311.here [X311.here.top, hx, (hb hby d_jdk_67_method_42_code_8), X311.method', Bd.returns, Value.isRef, FieldType.isReference]
    first | (intro acts; rw [hr _ acts rfl rfl rfl]) | rw [hr _ _ rfl rfl rfl]
    exact Steps.refl _
  · show Q_toStr Z xb va ka cs G h0 n0 _ T311.heap _
    exact ⟨b301, tt_311, kt_311, rfl, N311, (((Keep.refl h0 ([] : List Addr)).ext E301).trans K311 (allS (Or.inr (Nat.le_trans (Nat.le_refl _) (Nat.le_of_eq g301.symm))) all0)), (Nat.le_trans (Nat.le_refl _) (Nat.le_of_eq g301.symm)), c312, f311_0, f311_1, (Nat.le_trans E301.1 f311_2), f311_3⟩
theorem d_jdk_42_method_149_code_0 : decode jdk_42_method_149_code 0 = .ok (.aload_n 0, 1) := by decide +kernel
theorem d_jdk_42_method_149_code_1 : decode jdk_42_method_149_code 1 = .ok (.invokespecial 1, 3) := by decide +kernel
theorem d_jdk_42_method_149_code_4 : decode jdk_42_method_149_code 4 = .ok (.iload_n 3, 1) := by decide +kernel
theorem d_jdk_42_method_149_code_5 : decode jdk_42_method_149_code 5 = .ok (.ifCond .ne 22, 3) := by decide +kernel
theorem d_jdk_42_method_149_code_8 : decode jdk_42_method_149_code 8 = .ok (.aload_n 0, 1) := by decide +kernel
theorem d_jdk_42_method_149_code_9 : decode jdk_42_method_149_code 9 = .ok (.ldc 7, 2) := by decide +kernel
theorem d_jdk_42_method_149_code_11 : decode jdk_42_method_149_code 11 = .ok (.getfield 9, 3) := by decide +kernel
theorem d_jdk_42_method_149_code_14 : decode jdk_42_method_149_code 14 = .ok (.putfield 9, 3) := by decide +kernel
theorem d_jdk_42_method_149_code_17 : decode jdk_42_method_149_code 17 = .ok (.aload_n 0, 1) := by decide +kernel
theorem d_jdk_42_method_149_code_18 : decode jdk_42_method_149_code 18 = .ok (.ldc 7, 2) := by decide +kernel
theorem d_jdk_42_method_149_code_20 : decode jdk_42_method_149_code 20 = .ok (.getfield 15, 3) := by decide +kernel
theorem d_jdk_42_method_149_code_23 : decode jdk_42_method_149_code 23 = .ok (.putfield 15, 3) := by decide +kernel
theorem d_jdk_42_method_149_code_26 : decode jdk_42_method_149_code 26 = .ok (.return_, 1) := by decide +kernel
theorem ef_12 (m : MethodId) (x0 : Addr) (x1 : Addr) (x2 : Int32) (x3 : Int32) : entryFrame m #[(.ref x0), (.ref x1), (.int x2), (.int x3), .null] 6 = mkF m 0 #[.val (.ref x0), .val (.ref x1), .val (.int x2), .val (.int x3), .val .null, .unset] [] := by first | (simp [entryFrame, mkF, argsToLocals, Value.category]; done) | rfl
def Q_newE4 (Z : State) (xs : Addr) (ca : Addr) (h0 : Heap) (n0 : Nat) (v : Option Value) (h : Heap) (L : List Loc) : Prop := ∃ (tt : Addr) (kt : ClassId), (v = none) ∧ (Fr n0 L) ∧ (Keep h0 h ([xs] : List Addr)) ∧ (Fld Z h xs "java/lang/String" "value" "[B" (.ref tt)) ∧ (Fld Z h xs "java/lang/String" "coder" "B" (.int (0 : Int32))) ∧ (Arv Z h tt kt .byte (0 : Int32) [] (.int 0))
set_option maxRecDepth 65536 in
set_option maxHeartbeats 40000000 in
theorem rm_newE4 (l : Launch) (Z : State) (a0 : Array Value) (hw : ∀ d ∈ tables_1, d.before a0 Z = true) (ws : List Jvm.Cond) (xs : Addr) (ca : Addr) (h0 : Heap) (n0 : Nat) (Z0 : n0 ≤ h0.size) (q0 : Exa Z h0 xs "java/lang/String") (q1 : Fld Z h0 xs "java/lang/String" "value" "[B" .null) (q2 : Fld Z h0 xs "java/lang/String" "coder" "B" (.int (0 : Int32))) (q3 : n0 ≤ xs) :
    MetFree l (⟨"java/lang/String", "<init>", "([CIILjava/lang/Void;)V"⟩ : MethodName) (head1 (Jvm.Cond.code (⟨"java/lang/String", "<init>", "([CIILjava/lang/Void;)V"⟩ : MethodName) jdk_42_method_149_code 6 none :: ws) ({ frames := 1, cells := 4, slots := 8, locals := 12 } : Room)) (fun a₁ U₁ => a₁ = #[(.ref xs), (.ref ca), (.int (0 : Int32)), (.int (0 : Int32)), .null] ∧ Z.Warmed39 U₁.vm ∧ U₁.heap = h0 ∧ CHv Z [("java/lang/String", 7)] U₁.vm h0) (fun _ _ _ _ _ => True) (fun _ U₁ o₁ U₂ => ∃ v₁ L₁, o₁ = .returned v₁ ∧ Q_newE4 Z xs ca h0 n0 v₁ U₂.heap L₁ ∧ CHr Z [("java/lang/String", 7)] U₁.vm U₁.heap U₂.vm U₂.heap ∧ ReturnedEndW U₁ o₁ U₂ L₁ ({ frames := 1, cells := 4, slots := 8, locals := 12 } : Room).cells ({ frames := 1, cells := 4, slots := 8, locals := 12 } : Room).slots) := by
  refine MetFree.of_bodySF (plainFor_of_name pn_1) hisR ?_
  intro p e s m args below meth c s₁ Bd hml0 hP hK
  obtain ⟨rfl, hZ, hh, CH0⟩ := hP
  have hx := Bd.exec
  have hby := Bd.bytes
  have hml : c.maxLocals = 6 := hml0
  have hown : s.vm.findClass "java/lang/String" = some m.cls := findClass_of_methodNamed Bd.named
  have hnm := (name_of_methodNamed Bd.named Bd.method).1
  have X0 : Stand p l e ({ frames := 1, cells := 4, slots := 8, locals := 12 } : Room) (s.setVm s.vm) m #[(.ref xs), (.ref ca), (.int (0 : Int32)), (.int (0 : Int32)), .null] below meth c s₁ [] 0 0 := Stand.of_body Bd
  have e0 : s₁.heap = h0 := by rw [← hh, Bd.state]; rfl
  have N0 := Fr.nil n0
  have hZ0 : Z.Warmed39 (s.setVm s.vm).vm := hZ
  have hown0 : (s.setVm s.vm).vm.findClass "java/lang/String" = some m.cls := hown
  have hS0 : s.Since s.vm h0.size := (State.WarmedH.refl s).since _
  have hk0 : h0.size ≤ h0.size := Nat.le_refl _
  have CR0 : CHr Z [("java/lang/String", 7)] s.vm h0 s.vm h0 := CHr.refl CH0
  have pre0 : ∀ t, Steps p.tables e below (s₁.setTop (mkF m 0 #[.val (.ref xs), .val (.ref ca), .val (.int (0 : Int32)), .val (.int (0 : Int32)), .val .null, .unset] [])) t → Steps p.tables e below (s₁.setTop (entryFrame m #[(.ref xs), (.ref ca), (.int (0 : Int32)), (.int (0 : Int32)), .null] 6)) t := fun t k => castTop (ef_12 m xs ca (0 : Int32) (0 : Int32)) k
  obtain ⟨T301, X301, e301, st301⟩ := initO X0 hx hZ0 hown0 (hw _ (List.mem_of_getElem? (i := 18) rfl)) (hw _ (List.mem_of_getElem? (i := 19) rfl)) (hw _ (List.mem_of_getElem? (i := 20) rfl)) e0 (g := (mkF m 1 #[.val (.ref xs), .val (.ref ca), .val (.int (0 : Int32)), .val (.int (0 : Int32)), .val .null, .unset] [(.ref xs)])) rfl (by rw [hml]; rfl) rfl (hb hby d_jdk_42_method_149_code_1) (by decide) (W := 0) (by show 2 * 0 + _ ≤ _; exact Nat.le_of_eq rfl) (by decide)
  obtain ⟨b302, T302, h302, kk302, bb302, kb302, X302, e302, E302, hS302, hk302, hZ302, hown302, fE302, fC302, fV302, fA302, la302, lb302, ch302, li302, sx302, st302⟩ := ldcCH X301 hx hZ0 hown0 (hw _ (List.mem_of_getElem? (i := 21) rfl)) (own_hw_str hw) e301 hS0 hk0 (own_EW hw) (by decide) CR0.1 (vs := []) (z := (0 : Int32)) ⟨by decide, rfl⟩ (by decide) rfl (g := (mkF m 9 #[.val (.ref xs), .val (.ref ca), .val (.int (0 : Int32)), .val (.int (0 : Int32)), .val .null, .unset] [(.ref xs)])) rfl (hb hby d_jdk_42_method_149_code_9) (n := 0) (by decide) (by decide) (by decide) (by decide)
  have CR303 : CHr Z [("java/lang/String", 7)] s.vm h0 T302.vm h302 := CR0.trans ch302
  obtain ⟨T304, X304, e304, st304⟩ := getF X302 hx hZ302 hown302 (host := "") (Or.inl (hw _ (List.mem_of_getElem? (i := 27) rfl))) Via.refl e302 fV302 (g := (mkF m 11 #[.val (.ref xs), .val (.ref ca), .val (.int (0 : Int32)), .val (.int (0 : Int32)), .val .null, .unset] [(.ref b302), (.ref xs)])) rfl rfl (hb hby d_jdk_42_method_149_code_11)
  have c305 : Fld Z h302 xs "java/lang/String" "value" "[B" .null := (q1.ext E302)
  have c306 : Exa Z h302 xs "java/lang/String" := (q0.ext E302)
  have sf308 : Safe Z [("java/lang/String", 7)] T302.vm h302 xs := own_safe_null (EL := [("java/lang/String", 7)]) hZ302.alike c306 c305
  obtain ⟨T307, h307, X307, e307, W307, st307⟩ := putF X304 hx hZ302 hown302 (host := "") (Or.inl (hw _ (List.mem_of_getElem? (i := 27) rfl))) Via.refl e304 c305 c306 (Or.inr ⟨(hw _ (List.mem_of_getElem? (i := 23) rfl)), rfl, hnm⟩) (hw _ (List.mem_of_getElem? (i := 9) rfl)) (ty := (.array .byte)) (by decide) rfl rfl (g := (mkF m 14 #[.val (.ref xs), .val (.ref ca), .val (.int (0 : Int32)), .val (.int (0 : Int32)), .val .null, .unset] [(.ref bb302), (.ref xs)])) rfl rfl (hb hby d_jdk_42_method_149_code_14)
  have N307 := Fr.snoc X307 N0 q3
  have CR309 : CHr Z [("java/lang/String", 7)] s.vm h0 T302.vm h307 := CR303.trans (CHr.wr W307 sf308 CR303.1)
  have sf310 : Safe Z [("java/lang/String", 7)] T302.vm h307 xs := Safe.wr W307 sf308 CR303.1 sf308
  have F307 : Fld Z h307 xs "java/lang/String" "value" "[B" (.ref bb302) := c305.same W307
  obtain ⟨b311, T311, h311, kk311, bb311, kb311, X311, e311, E311, hS311, hk311, hZ311, hown311, fE311, fC311, fV311, fA311, la311, lb311, ch311, li311, sx311, st311⟩ := ldcCH X307 hx hZ302 hown302 (hw _ (List.mem_of_getElem? (i := 21) rfl)) (own_hw_str hw) e307 hS302 (Nat.le_trans hk302 (Keep.of_wr W307).1) (own_EW hw) (by decide) CR309.1 (vs := []) (z := (0 : Int32)) ⟨by decide, rfl⟩ (by decide) rfl (g := (mkF m 18 #[.val (.ref xs), .val (.ref ca), .val (.int (0 : Int32)), .val (.int (0 : Int32)), .val .null, .unset] [(.ref xs)])) rfl (hb hby d_jdk_42_method_149_code_18) (n := 0) (by decide) (by decide) (by decide) (by decide)
  have CR312 : CHr Z [("java/lang/String", 7)] s.vm h0 T311.vm h311 := CR309.trans ch311
  have sf313 : Safe Z [("java/lang/String", 7)] T311.vm h311 xs := ch311.safe (Nat.lt_of_lt_of_le c306.lt (Keep.of_wr W307).1) sf310
  obtain ⟨T314, X314, e314, st314⟩ := getF X311 hx hZ311 hown311 (host := "") (Or.inl (hw _ (List.mem_of_getElem? (i := 28) rfl))) Via.refl e311 fC311 (g := (mkF m 20 #[.val (.ref xs), .val (.ref ca), .val (.int (0 : Int32)), .val (.int (0 : Int32)), .val .null, .unset] [(.ref b311), (.ref xs)])) rfl rfl (hb hby d_jdk_42_method_149_code_20)
  have c315 : Fld Z h311 xs "java/lang/String" "coder" "B" (.int (0 : Int32)) := (((q2.ext E302).other W307 (Or.inr (slot_ne (Or.inr (hw _ (List.mem_of_getElem? (i := 24) rfl))) (Or.inr (hw _ (List.mem_of_getElem? (i := 23) rfl))) (by decide) (t := .byte) (t' := (.array .byte)) (by decide) (by decide)))).ext E311)
  have c316 : Exa Z h311 xs "java/lang/String" := ((c306.wr W307).ext E311)
  obtain ⟨T317, h317, X317, e317, W317, st317⟩ := putFN X314 hx hZ311 hown311 (hw _ (List.mem_of_getElem? (i := 28) rfl)) Via.refl e314 c315 c316 (Or.inr ⟨(hw _ (List.mem_of_getElem? (i := 24) rfl)), rfl, hnm⟩) (hw _ (List.mem_of_getElem? (i := 9) rfl)) (ty := .byte) (v' := (.int (0 : Int32))) (by decide) rfl rfl (g := (mkF m 23 #[.val (.ref xs), .val (.ref ca), .val (.int (0 : Int32)), .val (.int (0 : Int32)), .val .null, .unset] [(.int (0 : Int32)), (.ref xs)])) rfl rfl (hb hby d_jdk_42_method_149_code_23)
  have N317 := Fr.snoc X317 N307 q3
  have CR318 : CHr Z [("java/lang/String", 7)] s.vm h0 T311.vm h317 := CR312.trans (CHr.wr W317 sf313 CR312.1)
  have sf319 : Safe Z [("java/lang/String", 7)] T311.vm h317 xs := Safe.wr W317 sf313 CR312.1 sf313
  have F317 : Fld Z h317 xs "java/lang/String" "coder" "B" (.int (0 : Int32)) := c315.same W317
  have c320 : Fld Z h317 xs "java/lang/String" "value" "[B" (.ref bb302) := ((F307.ext E311).other W317 (Or.inr (slot_ne (Or.inr (hw _ (List.mem_of_getElem? (i := 23) rfl))) (Or.inr (hw _ (List.mem_of_getElem? (i := 24) rfl))) (by decide) (t := (.array .byte)) (t' := .byte) (by decide) (by decide))))
  have ne321 : xs ≠ bb302 := Exa.neArv c306 fA302 (hw _ (List.mem_of_getElem? (i := 9) rfl))
  have c322 : Arv Z h317 bb302 kb302 .byte (0 : Int32) [] (.int 0) := (((fA302.other W307 (Ne.symm ne321)).ext E311).other W317 (Ne.symm ne321))
  obtain ⟨fs, hr, hrun, hended, hEnd⟩ := X317.leaveW hS311 (by rw [e317]; exact (Nat.le_trans hk311 (Keep.of_wr W317).1)) (v := none) (fun _ => rfl)
  refine ⟨_, _, pre0 _ ?_, hrun, hended, _, _, rfl, ?_, (by rw [hh]; show CHr Z [("java/lang/String", 7)] s.vm h0 T317.vm T317.heap; rw [e317]; exact CR318.trans (CHv.at X317 hZ311 (own_EW hw) CR318.1)), hEnd.1, hEnd.2.1, hEnd.2.2.1, hEnd.2.2.2.mono (by decide) (by decide)⟩
  · refine XS.aloadN X0.here hx rfl (hb hby d_jdk_42_method_149_code_0) rfl rfl ?_
    show Steps p.tables e below (s₁.setTop (mkF m 1 #[.val (.ref xs), .val (.ref ca), .val (.int (0 : Int32)), .val (.int (0 : Int32)), .val .null, .unset] [(.ref xs)])) _
    refine st301 _ ?_
    show Steps p.tables e below (T301.setTop (mkF m 4 #[.val (.ref xs), .val (.ref ca), .val (.int (0 : Int32)), .val (.int (0 : Int32)), .val .null, .unset] [])) _
    refine XS.iloadN X301.here hx rfl (hb hby d_jdk_42_method_149_code_4) rfl ?_
    show Steps p.tables e below (T301.setTop (mkF m 5 #[.val (.ref xs), .val (.ref ca), .val (.int (0 : Int32)), .val (.int (0 : Int32)), .val .null, .unset] [(.int (0 : Int32))])) _
    refine XS.ifNo X301.here hx rfl (hb hby d_jdk_42_method_149_code_5) rfl ((if0 _ _).trans (teq ((by decide) : (0 : Int32) = (0 : Int32))).2) ?_
    show Steps p.tables e below (T301.setTop (mkF m 8 #[.val (.ref xs), .val (.ref ca), .val (.int (0 : Int32)), .val (.int (0 : Int32)), .val .null, .unset] [])) _
    refine XS.aloadN X301.here hx rfl (hb hby d_jdk_42_method_149_code_8) rfl rfl ?_
    show Steps p.tables e below (T301.setTop (mkF m 9 #[.val (.ref xs), .val (.ref ca), .val (.int (0 : Int32)), .val (.int (0 : Int32)), .val .null, .unset] [(.ref xs)])) _
    refine st302 _ ?_
    show Steps p.tables e below (T302.setTop (mkF m 11 #[.val (.ref xs), .val (.ref ca), .val (.int (0 : Int32)), .val (.int (0 : Int32)), .val .null, .unset] [(.ref b302), (.ref xs)])) _
    refine st304 _ ?_
    show Steps p.tables e below (T304.setTop (mkF m 14 #[.val (.ref xs), .val (.ref ca), .val (.int (0 : Int32)), .val (.int (0 : Int32)), .val .null, .unset] [(.ref bb302), (.ref xs)])) _
    refine st307 _ ?_
    show Steps p.tables e below (T307.setTop (mkF m 17 #[.val (.ref xs), .val (.ref ca), .val (.int (0 : Int32)), .val (.int (0 : Int32)), .val .null, .unset] [])) _
    refine XS.aloadN X307.here hx rfl (hb hby d_jdk_42_method_149_code_17) rfl rfl ?_
    show Steps p.tables e below (T307.setTop (mkF m 18 #[.val (.ref xs), .val (.ref ca), .val (.int (0 : Int32)), .val (.int (0 : Int32)), .val .null, .unset] [(.ref xs)])) _
    refine st311 _ ?_
    show Steps p.tables e below (T311.setTop (mkF m 20 #[.val (.ref xs), .val (.ref ca), .val (.int (0 : Int32)), .val (.int (0 : Int32)), .val .null, .unset] [(.ref b311), (.ref xs)])) _
    refine st314 _ ?_
    show Steps p.tables e below (T314.setTop (mkF m 23 #[.val (.ref xs), .val (.ref ca), .val (.int (0 : Int32)), .val (.int (0 : Int32)), .val .null, .unset] [(.int (0 : Int32)), (.ref xs)])) _
    refine st317 _ ?_
    show Steps p.tables e below (T317.setTop (mkF m 26 #[.val (.ref xs), .val (.ref ca), .val (.int (0 : Int32)), .val (.int (0 : Int32)), .val .null, .unset] [])) _
    exact X317.returnOut hx Bd.returns (hb hby d_jdk_42_method_149_code_26) hr
  · show Q_newE4 Z xs ca h0 n0 _ T317.heap _
    rw [e317]
    exact ⟨bb302, kb302, rfl, N317, (((((Keep.refl h0 ([xs] : List Addr)).ext E302).wr W307 (Or.inl (by simp))).ext E311).wr W317 (Or.inl (by simp))), c320, F317, c322⟩
theorem d_jdk_42_method_3_code_0 : decode jdk_42_method_3_code 0 = .ok (.aload_n 0, 1) := by decide +kernel
theorem d_jdk_42_method_3_code_1 : decode jdk_42_method_3_code 1 = .ok (.aload_n 1, 1) := by decide +kernel
theorem d_jdk_42_method_3_code_2 : decode jdk_42_method_3_code 2 = .ok (.iconst 0, 1) := by decide +kernel
theorem d_jdk_42_method_3_code_3 : decode jdk_42_method_3_code 3 = .ok (.aload_n 1, 1) := by decide +kernel
theorem d_jdk_42_method_3_code_4 : decode jdk_42_method_3_code 4 = .ok (.arraylength, 1) := by decide +kernel
theorem d_jdk_42_method_3_code_5 : decode jdk_42_method_3_code 5 = .ok (.aconst_null, 1) := by decide +kernel
theorem d_jdk_42_method_3_code_6 : decode jdk_42_method_3_code 6 = .ok (.invokespecial 27, 3) := by decide +kernel
theorem pd_16 : parseMethodDescriptor "([CIILjava/lang/Void;)V" = some ⟨[(.array .char), .int, .int, (.object "java/lang/Void")], none⟩ := by decide +kernel
theorem d_jdk_42_method_3_code_9 : decode jdk_42_method_3_code 9 = .ok (.return_, 1) := by decide +kernel
def Q_newE1 (Z : State) (xs : Addr) (ca : Addr) (kc : ClassId) (h0 : Heap) (n0 : Nat) (v : Option Value) (h : Heap) (L : List Loc) : Prop := ∃ (tt : Addr) (kt : ClassId), (v = none) ∧ (Fr n0 L) ∧ (Keep h0 h ([xs] : List Addr)) ∧ (Fld Z h xs "java/lang/String" "value" "[B" (.ref tt)) ∧ (Fld Z h xs "java/lang/String" "coder" "B" (.int (0 : Int32))) ∧ (Arv Z h tt kt .byte (0 : Int32) [] (.int 0))
set_option maxRecDepth 65536 in
set_option maxHeartbeats 40000000 in
theorem rm_newE1 (l : Launch) (Z : State) (a0 : Array Value) (hw : ∀ d ∈ tables_1, d.before a0 Z = true) (ws : List Jvm.Cond) (xs : Addr) (ca : Addr) (kc : ClassId) (h0 : Heap) (n0 : Nat) (Z0 : n0 ≤ h0.size) (q0 : Exa Z h0 xs "java/lang/String") (q1 : Fld Z h0 xs "java/lang/String" "value" "[B" .null) (q2 : Fld Z h0 xs "java/lang/String" "coder" "B" (.int (0 : Int32))) (q3 : n0 ≤ xs) (q4 : Arv Z h0 ca kc .char (0 : Int32) [] (.int (0 : Int32))) :
    MetFree l (⟨"java/lang/String", "<init>", "([C)V"⟩ : MethodName) (head1 (Jvm.Cond.code (⟨"java/lang/String", "<init>", "([C)V"⟩ : MethodName) jdk_42_method_3_code 2 none :: ws) ({ frames := 2, cells := 4, slots := 8, locals := 29 } : Room)) (fun a₁ U₁ => a₁ = #[(.ref xs), (.ref ca)] ∧ Z.Warmed39 U₁.vm ∧ U₁.heap = h0 ∧ CHv Z [("java/lang/String", 7)] U₁.vm h0) (fun _ _ _ _ _ => True) (fun _ U₁ o₁ U₂ => ∃ v₁ L₁, o₁ = .returned v₁ ∧ Q_newE1 Z xs ca kc h0 n0 v₁ U₂.heap L₁ ∧ CHr Z [("java/lang/String", 7)] U₁.vm U₁.heap U₂.vm U₂.heap ∧ ReturnedEndW U₁ o₁ U₂ L₁ ({ frames := 2, cells := 4, slots := 8, locals := 29 } : Room).cells ({ frames := 2, cells := 4, slots := 8, locals := 29 } : Room).slots) := by
  refine MetFree.of_bodySF (plainFor_of_name pn_1) hisR ?_
  intro p e s m args below meth c s₁ Bd hml0 hP hK
  obtain ⟨rfl, hZ, hh, CH0⟩ := hP
  have hx := Bd.exec
  have hby := Bd.bytes
  have hml : c.maxLocals = 2 := hml0
  have hown : s.vm.findClass "java/lang/String" = some m.cls := findClass_of_methodNamed Bd.named
  have hnm := (name_of_methodNamed Bd.named Bd.method).1
  have X0 : Stand p l e ({ frames := 2, cells := 4, slots := 8, locals := 29 } : Room) (s.setVm s.vm) m #[(.ref xs), (.ref ca)] below meth c s₁ [] 0 0 := Stand.of_body Bd
  have e0 : s₁.heap = h0 := by rw [← hh, Bd.state]; rfl
  have N0 := Fr.nil n0
  have hZ0 : Z.Warmed39 (s.setVm s.vm).vm := hZ
  have hown0 : (s.setVm s.vm).vm.findClass "java/lang/String" = some m.cls := hown
  have hS0 : s.Since s.vm h0.size := (State.WarmedH.refl s).since _
  have hk0 : h0.size ≤ h0.size := Nat.le_refl _
  have CR0 : CHr Z [("java/lang/String", 7)] s.vm h0 s.vm h0 := CHr.refl CH0
  have pre0 : ∀ t, Steps p.tables e below (s₁.setTop (mkF m 0 #[.val (.ref xs), .val (.ref ca)] [])) t → Steps p.tables e below (s₁.setTop (entryFrame m #[(.ref xs), (.ref ca)] 2)) t := fun t k => castTop (ef_5 m xs ca) k
  obtain ⟨cl301, Ar301, -, S301, M301, -, -⟩ := id q4
  obtain ⟨_, _, ⟨T302, L302, k302, n302⟩, -, X302', hS302', hz302', ⟨Lc302, hQ302, l302, y302, z302, ch302⟩, st302⟩ := X0.specialBackS hx (y := (⟨"java/lang/String", "<init>", "([CIILjava/lang/Void;)V"⟩ : MethodName)) rfl hown0 (mvT hZ0 (hw _ (List.mem_of_getElem? (i := 14) rfl))) (mvT hZ0 (hw _ (List.mem_of_getElem? (i := 15) rfl))) (mvT hZ0 (hw _ (List.mem_of_getElem? (i := 17) rfl))) (by decide) (backOfSH (W := 0) (rm_newE4 l Z a0 hw [] xs ca h0 n0 Z0 q0 q1 q2 q3) hZ0 (hw _ (List.mem_of_getElem? (i := 17) rfl)) (hw _ (List.mem_of_getElem? (i := 10) rfl)) (by decide) (by decide) (own_EW hw) CR0.1) (g := (mkF m 6 #[.val (.ref xs), .val (.ref ca)] [.null, (.int (0 : Int32)), (.int (0 : Int32)), (.ref ca), (.ref xs)])) rfl (by rw [hml]; rfl) (Steps.refl _) (a := xs) (argsL := [(.ref ca), (.int (0 : Int32)), (.int (0 : Int32)), .null]) (rest := []) (lenOf pd_16 rfl) rfl (by show 2 * 0 + _ ≤ _; exact Nat.le_of_eq rfl) (hb hby d_jdk_42_method_3_code_6) (fun _ _ => ⟨rfl, e0, (by decide : 0 + 4 ≤ _), (by decide : 0 + 8 ≤ _)⟩)
  dsimp only [Pt.U, Pt.locs, Pt.cells, Pt.slots] at X302' l302 y302 z302 st302 hQ302 hS302' hz302' ch302
  subst l302 y302 z302
  obtain ⟨tt_302, kt_302, rfl, Nq302, K302, f302_0, f302_1, f302_2⟩ := hQ302
  have N302 := Fr.app N0 Nq302
  obtain ⟨X302, hS302, hZ302, hown302⟩ := rebS hS0 (by rw [e0]; exact hk0) X302' hS302' hz302' hZ0 hown0
  have CR303 : CHr Z [("java/lang/String", 7)] s.vm h0 T302.vm T302.heap := CR0.trans ch302
  obtain ⟨fs, hr, hrun, hended, hEnd⟩ := X302.leaveW hS302 (Nat.le_refl _) (v := none) (fun _ => rfl)
  refine ⟨_, _, pre0 _ ?_, hrun, hended, _, _, rfl, ?_, (by rw [hh]; show CHr Z [("java/lang/String", 7)] s.vm h0 T302.vm T302.heap; exact CR303.trans (CHv.at X302 hZ302 (own_EW hw) CR303.1)), hEnd.1, hEnd.2.1, hEnd.2.2.1, hEnd.2.2.2.mono (by decide) (by decide)⟩
  · refine XS.aloadN X0.here hx rfl (hb hby d_jdk_42_method_3_code_0) rfl rfl ?_
    show Steps p.tables e below (s₁.setTop (mkF m 1 #[.val (.ref xs), .val (.ref ca)] [(.ref xs)])) _
    refine XS.aloadN X0.here hx rfl (hb hby d_jdk_42_method_3_code_1) rfl rfl ?_
    show Steps p.tables e below (s₁.setTop (mkF m 2 #[.val (.ref xs), .val (.ref ca)] [(.ref ca), (.ref xs)])) _
    refine XS.iconst X0.here hx rfl (hb hby d_jdk_42_method_3_code_2) ?_
    show Steps p.tables e below (s₁.setTop (mkF m 3 #[.val (.ref xs), .val (.ref ca)] [(.int (0 : Int32)), (.ref ca), (.ref xs)])) _
    refine XS.aloadN X0.here hx rfl (hb hby d_jdk_42_method_3_code_3) rfl rfl ?_
    show Steps p.tables e below (s₁.setTop (mkF m 4 #[.val (.ref xs), .val (.ref ca)] [(.ref ca), (.int (0 : Int32)), (.ref ca), (.ref xs)])) _
    refine X0.arraylength hx (by rw [e0]; exact Ar301.1) (State.isArrayOf_alike hZ0.alike Ar301.2.1) (g := (mkF m 4 #[.val (.ref xs), .val (.ref ca)] [(.ref ca), (.int (0 : Int32)), (.ref ca), (.ref xs)])) rfl rfl (hb hby d_jdk_42_method_3_code_4) _ ?_
    rw [len_of S301 M301]
    show Steps p.tables e below (s₁.setTop (mkF m 5 #[.val (.ref xs), .val (.ref ca)] [(.int (0 : Int32)), (.int (0 : Int32)), (.ref ca), (.ref xs)])) _
    refine XS.aconstNull X0.here hx rfl (hb hby d_jdk_42_method_3_code_5) ?_
    show Steps p.tables e below (s₁.setTop (mkF m 6 #[.val (.ref xs), .val (.ref ca)] [.null, (.int (0 : Int32)), (.int (0 : Int32)), (.ref ca), (.ref xs)])) _
    refine st302.trans ?_
    show Steps p.tables e below (T302.setTop (mkF m 9 #[.val (.ref xs), .val (.ref ca)] [])) _
    exact X302.returnOut hx Bd.returns (hb hby d_jdk_42_method_3_code_9) hr
  · show Q_newE1 Z xs ca kc h0 n0 _ T302.heap _
    exact ⟨tt_302, kt_302, rfl, N302, ((Keep.refl h0 ([xs] : List Addr)).trans K302 (allS (Or.inl (by simp)) all0)), f302_0, f302_1, f302_2⟩
/-- a char below 256 -/
def own_L (x : Int32) : Prop := nar .char x = x ∧ ¬ x < 0 ∧ ¬ (255 : Int32) < x
theorem own_Lall : ∀ k : Fin 256, own_L (Int32.ofNat k.val) := by
  have tt : ∀ k : Fin 256, nar .char (Int32.ofNat k.val) = Int32.ofNat k.val ∧ ¬ Int32.ofNat k.val < 0 ∧ ¬ (255 : Int32) < Int32.ofNat k.val := by decide +kernel
  exact tt
theorem own_Lof {x : Int32} (h : x.toBitVec.toNat < 256) : own_L x := by
  have e : x = Int32.ofNat x.toBitVec.toNat := by
    apply Int32.toBitVec_inj.mp
    show _ = BitVec.ofNat 32 _
    rw [BitVec.ofNat_toNat]; simp
  rw [e]
  exact own_Lall ⟨_, h⟩
theorem own_and255 (x : Int32) : (x &&& 255).toBitVec.toNat < 256 := by
  simp only [Int32.toBitVec_and, BitVec.toNat_and]
  exact Nat.lt_succ_of_le Nat.and_le_right
theorem own_lat8 (x : Int32) : own_L ((x &&& (255 : Int32)).toUInt32.toUInt16.toUInt32.toInt32) := by
  rw [i2c_mask]
  exact own_Lof (own_and255 x)
theorem own_Lnat {x : Int32} (h : own_L x) : x.toBitVec.toNat < 256 := by
  obtain ⟨-, h0, h1⟩ := h
  rw [Int32.lt_iff_toInt_lt] at h0 h1
  have e0 : (0 : Int32).toInt = 0 := rfl
  have e1 : (255 : Int32).toInt = 255 := rfl
  have hb : x.toInt = x.toBitVec.toInt := rfl
  rw [hb, BitVec.toInt_eq_toNat_cond] at h0 h1
  have := x.toBitVec.isLt
  split at h0 <;> omega
theorem own_i2c_small {x : Int32} (h : own_L x) : x.toUInt32.toUInt16.toUInt32.toInt32 = x := h.1
theorem own_getmem {cs : List Int32} {i : Nat} (h : i < cs.length) : cs.getD i 0 ∈ cs := by
  have e : cs.getD i 0 = cs[i] := by simp [List.getD_eq_getElem?_getD, h]
  rw [e]; exact List.getElem_mem _
theorem own_not123 {c : Int32} (h : own_L c ∧ ¬ c = (123 : Int32)) : ¬ (StrChars.lo8 c = (123 : Int32)) := fun q => h.2 (StrChars.lo8_inj h.1.2.1 h.1.2.2 (by decide) (by decide) (q.trans (by decide)))
theorem own_subn {a b : Nat} (h : b < a) (ha : a < 2 ^ 31) : (Int32.ofNat a - Int32.ofNat b) - (1 : Int32) = Int32.ofNat (a - b - 1) := by
  apply Int32.toInt_inj.mp
  have e1 := own_toInt (j := a) ha
  have e2 := own_toInt (j := b) (by omega)
  have e3 := own_toInt (j := a - b - 1) (by omega)
  have e4 := c_isub (Int32.ofNat a) (Int32.ofNat b)
  have e5 := c_isub (Int32.ofNat a - Int32.ofNat b) 1
  have e6 := rng32 (Int32.ofNat a - Int32.ofNat b)
  have e7 := rng32 (Int32.ofNat a - Int32.ofNat b - 1)
  have e8 : (1 : Int32).toInt = 1 := rfl
  omega
theorem own_rl {ps ns : List Int32} {pl nl : Nat} (hp : ps.length = 3) (hn : ns.length = 3) (h1 : pl ≤ 3) (h2 : nl ≤ 3) : (ps.take pl ++ [(123 : Int32)] ++ ns.take nl ++ [(125 : Int32)]).length = pl + nl + 2 := by
  simp only [List.length_append, List.length_take, List.length_cons, List.length_nil]
  omega
theorem own_e1 {ps ns : List Int32} {pl nl ii : Nat} (hp : ps.length = 3) (h1 : pl ≤ 3) (g : ii < pl) : (ps.take pl ++ [(123 : Int32)] ++ ns.take nl ++ [(125 : Int32)]).getD ii 0 = ps.getD ii 0 := by
  simp only [List.getD_eq_getElem?_getD, List.append_assoc]
  rw [List.getElem?_append_left (by rw [List.length_take]; omega), List.getElem?_take_of_lt g]
theorem own_e2 {ps ns : List Int32} {pl nl ii : Nat} (hp : ps.length = 3) (h1 : pl ≤ 3) (g : ii = pl) : (ps.take pl ++ [(123 : Int32)] ++ ns.take nl ++ [(125 : Int32)]).getD ii 0 = (123 : Int32) := by
  subst g
  simp only [List.getD_eq_getElem?_getD, List.append_assoc]
  rw [List.getElem?_append_right (by rw [List.length_take]; omega), List.length_take, show ii - min ii ps.length = 0 by omega]
  rfl
theorem own_e3 {ps ns : List Int32} {pl nl ii : Nat} (hp : ps.length = 3) (hn : ns.length = 3) (h1 : pl ≤ 3) (h2 : nl ≤ 3) (g : pl < ii) (g3 : ii - pl - 1 < nl) : (ps.take pl ++ [(123 : Int32)] ++ ns.take nl ++ [(125 : Int32)]).getD ii 0 = ns.getD (ii - pl - 1) 0 := by
  simp only [List.getD_eq_getElem?_getD, List.append_assoc]
  rw [List.getElem?_append_right (by rw [List.length_take]; omega), List.length_take, show ii - min pl ps.length = (ii - pl - 1) + 1 by omega, List.cons_append, List.getElem?_cons_succ, List.nil_append, List.getElem?_append_left (by rw [List.length_take]; omega), List.getElem?_take_of_lt g3]
theorem own_e4 {ps ns : List Int32} {pl nl ii : Nat} (hp : ps.length = 3) (hn : ns.length = 3) (h1 : pl ≤ 3) (h2 : nl ≤ 3) (g : pl < ii) (g3 : ii = pl + nl + 1) : (ps.take pl ++ [(123 : Int32)] ++ ns.take nl ++ [(125 : Int32)]).getD ii 0 = (125 : Int32) := by
  simp only [List.getD_eq_getElem?_getD, List.append_assoc]
  rw [List.getElem?_append_right (by rw [List.length_take]; omega), List.length_take, show ii - min pl ps.length = nl + 1 by omega, List.cons_append, List.getElem?_cons_succ, List.nil_append, List.getElem?_append_right (by rw [List.length_take]; omega), List.length_take, show nl - min nl ns.length = 0 by omega]
  rfl
theorem own_and3 (x : Int32) : ∃ n : Nat, (x &&& (3 : Int32)) = Int32.ofNat n ∧ n ≤ 3 := by
  have h := c_and x 3 (by decide)
  have e3 : (3 : Int32).toInt = 3 := rfl
  refine ⟨(x &&& (3 : Int32)).toInt.toNat, Int32.toInt_inj.mp ?_, by omega⟩
  rw [own_toInt (by omega)]
  omega
theorem own_1mod3 (x : Int32) : ∃ n : Nat, ((1 : Int32) + ((x &&& (3 : Int32)) % (3 : Int32))) = Int32.ofNat n ∧ (1 ≤ n ∧ n ≤ 3) := by
  have h1 := c_and x 3 (by decide)
  have h2 := (c_irem (x &&& (3 : Int32)) 3 3 rfl).1 h1.1
  have h3 := c_iadd 1 ((x &&& (3 : Int32)) % (3 : Int32))
  have h4 := rng32 ((1 : Int32) + ((x &&& (3 : Int32)) % (3 : Int32)))
  have e1 : (1 : Int32).toInt = 1 := rfl
  have h5 : ((1 : Int32) + ((x &&& (3 : Int32)) % (3 : Int32))).toInt = 1 + ((x &&& (3 : Int32)) % (3 : Int32)).toInt := by omega
  refine ⟨((1 : Int32) + ((x &&& (3 : Int32)) % (3 : Int32))).toInt.toNat, Int32.toInt_inj.mp ?_, by omega, by omega⟩
  rw [own_toInt (by omega)]
  omega
theorem own_le3 {n : Nat} (h : n ≤ 3) : n = 0 ∨ n = 1 ∨ n = 2 ∨ n = 3 := by omega
theorem own_add3 (a b : Nat) : (Int32.ofNat a + Int32.ofNat b) + (2 : Int32) = Int32.ofNat (a + b + 2) := by
  rw [own_addn]; exact own_addn (a + b) 2
theorem own_take0 {a b c : Int32} {n : Nat} (h : 1 ≤ n) (ha : ¬ a = (125 : Int32)) : ¬ (([a, b, c] : List Int32).take n).getD 0 0 = (125 : Int32) := by
  cases n with
  | zero => omega
  | succ n => exact ha
theorem own_rm {A B : List Int32} (ha : ∀ c ∈ A, ¬ c < 0 ∧ ¬ (255 : Int32) < c) (hb : ∀ c ∈ B, ¬ c < 0 ∧ ¬ (255 : Int32) < c) : ∀ c ∈ A ++ [(123 : Int32)] ++ B ++ [(125 : Int32)], ¬ c < 0 ∧ ¬ (255 : Int32) < c := by
  intro c hc
  simp only [List.mem_append, List.mem_cons, List.not_mem_nil, or_false] at hc
  rcases hc with ((h | rfl) | h) | rfl
  · exact ha c h
  · decide
  · exact hb c h
  · decide

theorem d_method_4_code_0 : decode method_4_code 0 = .ok (.iload_n 0, 1) := by decide +kernel
theorem d_method_4_code_1 : decode method_4_code 1 = .ok (.ifCond .ne 14, 3) := by decide +kernel
theorem d_method_4_code_4 : decode method_4_code 4 = .ok (.new 27, 3) := by decide +kernel
theorem d_method_4_code_7 : decode method_4_code 7 = .ok (.dup, 1) := by decide +kernel
theorem d_method_4_code_8 : decode method_4_code 8 = .ok (.iconst 0, 1) := by decide +kernel
theorem d_method_4_code_9 : decode method_4_code 9 = .ok (.newarray .char, 2) := by decide +kernel
theorem d_method_4_code_11 : decode method_4_code 11 = .ok (.invokespecial 36, 3) := by decide +kernel
theorem pd_17 : parseMethodDescriptor "([C)V" = some ⟨[(.array .char)], none⟩ := by decide +kernel
theorem d_method_4_code_14 : decode method_4_code 14 = .ok (.areturn, 1) := by decide +kernel
theorem d_method_4_code_15 : decode method_4_code 15 = .ok (.iload_n 0, 1) := by decide +kernel
theorem d_method_4_code_16 : decode method_4_code 16 = .ok (.iconst 1, 1) := by decide +kernel
theorem d_method_4_code_17 : decode method_4_code 17 = .ok (.if_icmp .ne 18, 3) := by decide +kernel
theorem d_method_4_code_20 : decode method_4_code 20 = .ok (.new 27, 3) := by decide +kernel
theorem d_method_4_code_23 : decode method_4_code 23 = .ok (.dup, 1) := by decide +kernel
theorem d_method_4_code_24 : decode method_4_code 24 = .ok (.iconst 1, 1) := by decide +kernel
theorem d_method_4_code_25 : decode method_4_code 25 = .ok (.newarray .char, 2) := by decide +kernel
theorem d_method_4_code_27 : decode method_4_code 27 = .ok (.dup, 1) := by decide +kernel
theorem d_method_4_code_28 : decode method_4_code 28 = .ok (.iconst 0, 1) := by decide +kernel
theorem d_method_4_code_29 : decode method_4_code 29 = .ok (.iload_n 1, 1) := by decide +kernel
theorem d_method_4_code_30 : decode method_4_code 30 = .ok (.castore, 1) := by decide +kernel
theorem d_method_4_code_31 : decode method_4_code 31 = .ok (.invokespecial 36, 3) := by decide +kernel
theorem d_method_4_code_34 : decode method_4_code 34 = .ok (.areturn, 1) := by decide +kernel
theorem d_method_4_code_35 : decode method_4_code 35 = .ok (.iload_n 0, 1) := by decide +kernel
theorem d_method_4_code_36 : decode method_4_code 36 = .ok (.iconst 2, 1) := by decide +kernel
theorem d_method_4_code_37 : decode method_4_code 37 = .ok (.if_icmp .ne 22, 3) := by decide +kernel
theorem d_method_4_code_40 : decode method_4_code 40 = .ok (.new 27, 3) := by decide +kernel
theorem d_method_4_code_43 : decode method_4_code 43 = .ok (.dup, 1) := by decide +kernel
theorem d_method_4_code_44 : decode method_4_code 44 = .ok (.iconst 2, 1) := by decide +kernel
theorem d_method_4_code_45 : decode method_4_code 45 = .ok (.newarray .char, 2) := by decide +kernel
theorem d_method_4_code_47 : decode method_4_code 47 = .ok (.dup, 1) := by decide +kernel
theorem d_method_4_code_48 : decode method_4_code 48 = .ok (.iconst 0, 1) := by decide +kernel
theorem d_method_4_code_49 : decode method_4_code 49 = .ok (.iload_n 1, 1) := by decide +kernel
theorem d_method_4_code_50 : decode method_4_code 50 = .ok (.castore, 1) := by decide +kernel
theorem d_method_4_code_51 : decode method_4_code 51 = .ok (.dup, 1) := by decide +kernel
theorem d_method_4_code_52 : decode method_4_code 52 = .ok (.iconst 1, 1) := by decide +kernel
theorem d_method_4_code_53 : decode method_4_code 53 = .ok (.iload_n 2, 1) := by decide +kernel
theorem d_method_4_code_54 : decode method_4_code 54 = .ok (.castore, 1) := by decide +kernel
theorem d_method_4_code_55 : decode method_4_code 55 = .ok (.invokespecial 36, 3) := by decide +kernel
theorem d_method_4_code_58 : decode method_4_code 58 = .ok (.areturn, 1) := by decide +kernel
theorem d_method_4_code_59 : decode method_4_code 59 = .ok (.new 27, 3) := by decide +kernel
theorem d_method_4_code_62 : decode method_4_code 62 = .ok (.dup, 1) := by decide +kernel
theorem d_method_4_code_63 : decode method_4_code 63 = .ok (.iconst 3, 1) := by decide +kernel
theorem d_method_4_code_64 : decode method_4_code 64 = .ok (.newarray .char, 2) := by decide +kernel
theorem d_method_4_code_66 : decode method_4_code 66 = .ok (.dup, 1) := by decide +kernel
theorem d_method_4_code_67 : decode method_4_code 67 = .ok (.iconst 0, 1) := by decide +kernel
theorem d_method_4_code_68 : decode method_4_code 68 = .ok (.iload_n 1, 1) := by decide +kernel
theorem d_method_4_code_69 : decode method_4_code 69 = .ok (.castore, 1) := by decide +kernel
theorem d_method_4_code_70 : decode method_4_code 70 = .ok (.dup, 1) := by decide +kernel
theorem d_method_4_code_71 : decode method_4_code 71 = .ok (.iconst 1, 1) := by decide +kernel
theorem d_method_4_code_72 : decode method_4_code 72 = .ok (.iload_n 2, 1) := by decide +kernel
theorem d_method_4_code_73 : decode method_4_code 73 = .ok (.castore, 1) := by decide +kernel
theorem d_method_4_code_74 : decode method_4_code 74 = .ok (.dup, 1) := by decide +kernel
theorem d_method_4_code_75 : decode method_4_code 75 = .ok (.iconst 2, 1) := by decide +kernel
theorem d_method_4_code_76 : decode method_4_code 76 = .ok (.iload_n 3, 1) := by decide +kernel
theorem d_method_4_code_77 : decode method_4_code 77 = .ok (.castore, 1) := by decide +kernel
theorem d_method_4_code_78 : decode method_4_code 78 = .ok (.invokespecial 36, 3) := by decide +kernel
theorem d_method_4_code_81 : decode method_4_code 81 = .ok (.areturn, 1) := by decide +kernel
theorem ef_13 (m : MethodId) (x0 : Int32) (x1 : Int32) (x2 : Int32) (x3 : Int32) : entryFrame m #[(.int x0), (.int x1), (.int x2), (.int x3)] 4 = mkF m 0 #[.val (.int x0), .val (.int x1), .val (.int x2), .val (.int x3)] [] := by first | (simp [entryFrame, mkF, argsToLocals, Value.category]; done) | rfl
theorem pn_5 : plainName "com/example/holdfast/holdfast/redis/LockKeysLockKeyPinLaw" = true := by first | (simp [plainName, overriddenIn]; done) | decide +kernel
def Q_str (Z : State) (pl : Nat) (c0 : Int32) (c1 : Int32) (c2 : Int32) (G : Int32) (h0 : Heap) (n0 : Nat) (v : Option Value) (h : Heap) (L : List Loc) : Prop := ∃ (xr : Addr) (tt : Addr) (kt : ClassId) (nn : Int32) (vs : List Value), (v = some (.ref xr)) ∧ (Fr n0 L) ∧ (Keep h0 h ([] : List Addr)) ∧ (h0.size ≤ xr) ∧ (Exa Z h xr "java/lang/String") ∧ (Fld Z h xr "java/lang/String" "value" "[B" (.ref tt)) ∧ (Fld Z h xr "java/lang/String" "coder" "B" (.int (0 : Int32))) ∧ (Arv Z h tt kt .byte nn vs (.int 0)) ∧ (StrChars.Road.CodA ([c0, c1, c2].take pl) 0 nn vs)
set_option maxRecDepth 65536 in
set_option maxHeartbeats 40000000 in
theorem rm_str (l : Launch) (Z : State) (a0 : Array Value) (hw : ∀ d ∈ tables_1, d.before a0 Z = true) (ws : List Jvm.Cond) (pl : Nat) (c0 : Int32) (c1 : Int32) (c2 : Int32) (G : Int32) (h0 : Heap) (n0 : Nat) (Z0 : n0 ≤ h0.size) (q0 : Sta Z Z.heap "java/lang/String" "COMPACT_STRINGS" "Z" (.int G)) (hCS : ¬ (G = (0 : Int32))) (q2 : Old Z n0 h0) (hq : pl = 0 ∨ pl = 1 ∨ pl = 2 ∨ pl = 3) (hl0 : own_L c0) (hl1 : own_L c1) (hl2 : own_L c2) :
    MetFree l (⟨"com/example/holdfast/holdfast/redis/LockKeysLockKeyPinLaw", "str", "(ICCC)Ljava/lang/String;"⟩ : MethodName) (head1 (Jvm.Cond.code (⟨"com/example/holdfast/holdfast/redis/LockKeysLockKeyPinLaw", "str", "(ICCC)Ljava/lang/String;"⟩ : MethodName) method_4_code 4 (some (.object "java/lang/String")) :: ws) ({ frames := 4, cells := 6, slots := 12, locals := 66 } : Room)) (fun a₁ U₁ => a₁ = #[(.int (Int32.ofNat pl)), (.int c0), (.int c1), (.int c2)] ∧ Z.Warmed39 U₁.vm ∧ U₁.heap = h0 ∧ CHv Z [("java/lang/String", 7)] U₁.vm h0) (fun _ _ _ _ _ => True) (fun _ U₁ o₁ U₂ => ∃ v₁ L₁, o₁ = .returned v₁ ∧ Q_str Z pl c0 c1 c2 G h0 n0 v₁ U₂.heap L₁ ∧ CHr Z [("java/lang/String", 7)] U₁.vm U₁.heap U₂.vm U₂.heap ∧ ReturnedEndW U₁ o₁ U₂ L₁ ({ frames := 4, cells := 6, slots := 12, locals := 66 } : Room).cells ({ frames := 4, cells := 6, slots := 12, locals := 66 } : Room).slots) := by
  refine MetFree.of_bodySF (plainFor_of_name pn_5) hisR ?_
  intro p e s m args below meth c s₁ Bd hml0 hP hK
  obtain ⟨rfl, hZ, hh, CH0⟩ := hP
  have hx := Bd.exec
  have hby := Bd.bytes
  have hml : c.maxLocals = 4 := hml0
  have hown : s.vm.findClass "com/example/holdfast/holdfast/redis/LockKeysLockKeyPinLaw" = some m.cls := findClass_of_methodNamed Bd.named
  have hnm := (name_of_methodNamed Bd.named Bd.method).1
  have X0 : Stand p l e ({ frames := 4, cells := 6, slots := 12, locals := 66 } : Room) (s.setVm s.vm) m #[(.int (Int32.ofNat pl)), (.int c0), (.int c1), (.int c2)] below meth c s₁ [] 0 0 := Stand.of_body Bd
  have e0 : s₁.heap = h0 := by rw [← hh, Bd.state]; rfl
  have N0 := Fr.nil n0
  have hZ0 : Z.Warmed39 (s.setVm s.vm).vm := hZ
  have hown0 : (s.setVm s.vm).vm.findClass "com/example/holdfast/holdfast/redis/LockKeysLockKeyPinLaw" = some m.cls := hown
  have hS0 : s.Since s.vm h0.size := (State.WarmedH.refl s).since _
  have hk0 : h0.size ≤ h0.size := Nat.le_refl _
  have CR0 : CHr Z [("java/lang/String", 7)] s.vm h0 s.vm h0 := CHr.refl CH0
  have pre0 : ∀ t, Steps p.tables e below (s₁.setTop (mkF m 0 #[.val (.int (Int32.ofNat pl)), .val (.int c0), .val (.int c1), .val (.int c2)] [])) t → Steps p.tables e below (s₁.setTop (entryFrame m #[(.int (Int32.ofNat pl)), (.int c0), (.int c1), (.int c2)] 4)) t := fun t k => castTop (ef_13 m (Int32.ofNat pl) c0 c1 c2) k
  rcases hq with hq | hq | hq | hq
  · subst hq
    obtain ⟨T301, h301, X301, e301, E301, A301, D301, -, st301⟩ := newO X0 hx hZ0 hown0 (hw _ (List.mem_of_getElem? (i := 8) rfl)) (hw _ (List.mem_of_getElem? (i := 9) rfl)) (hw _ (List.mem_of_getElem? (i := 10) rfl)) e0 (g := (mkF m 4 #[.val (.int (0 : Int32)), .val (.int c0), .val (.int c1), .val (.int c2)] [])) rfl (hb hby d_method_4_code_4) (by decide) (by decide)
    obtain ⟨b301, g301⟩ : ∃ z, z = h0.size := ⟨_, rfl⟩
    rw [← g301] at A301 D301 st301
    have sf302 : Safe Z [("java/lang/String", 7)] s.vm h0 b301 := Safe.new (Nat.le_of_eq g301.symm)
    have CR303 : CHr Z [("java/lang/String", 7)] s.vm h0 s.vm h301 := CR0.trans (CHr.ext E301 CR0.1)
    have sf304 : Safe Z [("java/lang/String", 7)] s.vm h301 b301 := Safe.ext E301 CR0.1 sf302
    have D301_value : Fld Z h301 b301 "java/lang/String" "value" "[B" .null := D301 (Or.inr (hw _ (List.mem_of_getElem? (i := 23) rfl))) (ty := (.array .byte)) (by decide)
    have D301_coder : Fld Z h301 b301 "java/lang/String" "coder" "B" (.int (0 : Int32)) := D301 (Or.inr (hw _ (List.mem_of_getElem? (i := 24) rfl))) (ty := .byte) (by decide)
    obtain ⟨T305, h305, ky305, X305, e305, E305, A305, st305⟩ := newP X301 hx hZ0 (hw _ (List.mem_of_getElem? (i := 4) rfl)) e301 (g := (mkF m 9 #[.val (.int (0 : Int32)), .val (.int c0), .val (.int c1), .val (.int c2)] [(.int (0 : Int32)), (.ref b301), (.ref b301)])) rfl (hb hby d_method_4_code_9) rfl ((by decide) : ¬ ((0 : Int32) < (0 : Int32))) (cap := 0) ((by decide) : (0 : Int32).toNatClampNeg ≤ 0) (by decide) (by decide) (by decide)
    obtain ⟨b305, g305⟩ : ∃ z, z = h301.size := ⟨_, rfl⟩
    rw [← g305] at A305 st305
    have sf306 : Safe Z [("java/lang/String", 7)] s.vm h301 b305 := Safe.new (Nat.le_of_eq g305.symm)
    have CR307 : CHr Z [("java/lang/String", 7)] s.vm h0 s.vm h305 := CR303.trans (CHr.ext E305 CR303.1)
    have sf308 : Safe Z [("java/lang/String", 7)] s.vm h305 b301 := Safe.ext E305 CR303.1 sf304
    have sf309 : Safe Z [("java/lang/String", 7)] s.vm h305 b305 := Safe.ext E305 CR303.1 sf306
    have V305 : Arv Z h305 b305 ky305 .char (0 : Int32) [] (.int (0 : Int32)) := Arv.new A305 (by decide)
    have c310 : Exa Z h305 b301 "java/lang/String" := (A301.ext E305)
    have c311 : Fld Z h305 b301 "java/lang/String" "value" "[B" .null := (D301_value.ext E305)
    have c312 : Fld Z h305 b301 "java/lang/String" "coder" "B" (.int (0 : Int32)) := (D301_coder.ext E305)
    have ge313 : n0 ≤ b301 := Nat.le_trans Z0 (Nat.le_trans (Nat.le_refl _) (Nat.le_of_eq g301.symm))
    obtain ⟨_, _, ⟨T314, L314, k314, n314⟩, -, X314', hS314', hz314', ⟨Lc314, hQ314, l314, y314, z314, ch314⟩, st314⟩ := X305.specialBackS hx (y := (⟨"java/lang/String", "<init>", "([C)V"⟩ : MethodName)) rfl hown0 (mvT hZ0 (hw _ (List.mem_of_getElem? (i := 11) rfl))) (mvT hZ0 (hw _ (List.mem_of_getElem? (i := 12) rfl))) (mvT hZ0 (hw _ (List.mem_of_getElem? (i := 13) rfl))) (by decide) (backOfSH (W := 1) (rm_newE1 l Z a0 hw [] b301 b305 ky305 h305 n0 (Nat.le_trans Z0 (Nat.le_trans E301.1 E305.1)) c310 c311 c312 ge313 V305) hZ0 (hw _ (List.mem_of_getElem? (i := 13) rfl)) (hw _ (List.mem_of_getElem? (i := 10) rfl)) (by decide) (by decide) (own_EW hw) CR307.1) (g := (mkF m 11 #[.val (.int (0 : Int32)), .val (.int c0), .val (.int c1), .val (.int c2)] [(.ref b305), (.ref b301), (.ref b301)])) rfl (by rw [hml]; rfl) (Steps.refl _) (a := b301) (argsL := [(.ref b305)]) (rest := [(.ref b301)]) (lenOf pd_17 rfl) rfl (by show 2 * 0 + _ ≤ _; exact Nat.le_of_eq rfl) (hb hby d_method_4_code_11) (fun _ _ => ⟨rfl, e305, (by decide : 2 + 4 ≤ _), (by decide : 4 + 8 ≤ _)⟩)
    dsimp only [Pt.U, Pt.locs, Pt.cells, Pt.slots] at X314' l314 y314 z314 st314 hQ314 hS314' hz314' ch314
    subst l314 y314 z314
    obtain ⟨tt_314, kt_314, rfl, Nq314, K314, f314_0, f314_1, f314_2⟩ := hQ314
    have N314 := Fr.app N0 Nq314
    obtain ⟨X314, hS314, hZ314, hown314⟩ := rebS hS0 (by rw [e305]; exact (Nat.le_trans hk0 (Nat.le_trans E301.1 E305.1))) X314' hS314' hz314' hZ0 hown0
    have CR315 : CHr Z [("java/lang/String", 7)] s.vm h0 T314.vm T314.heap := CR307.trans ch314
    have sf316 : Safe Z [("java/lang/String", 7)] T314.vm T314.heap b301 := ch314.safe c310.lt sf308
    have sf317 : Safe Z [("java/lang/String", 7)] T314.vm T314.heap b305 := ch314.safe V305.lt sf309
    have c318 : Exa Z T314.heap b301 "java/lang/String" := (c310.keep K314)
    obtain ⟨fs, hr, hrun, hended, hEnd⟩ := X314.leaveW hS314 (Nat.le_refl _) (v := some (.ref b301)) (fun h => by rw [Bd.returns] at h; cases h)
    refine ⟨_, _, pre0 _ ?_, hrun, hended, _, _, rfl, ?_, (by rw [hh]; show CHr Z [("java/lang/String", 7)] s.vm h0 T314.vm T314.heap; exact CR315.trans (CHv.at X314 hZ314 (own_EW hw) CR315.1)), hEnd.1, hEnd.2.1, hEnd.2.2.1, hEnd.2.2.2.mono (by decide) (by decide)⟩
    · refine XS.iloadN X0.here hx rfl (hb hby d_method_4_code_0) rfl ?_
      show Steps p.tables e below (s₁.setTop (mkF m 1 #[.val (.int (0 : Int32)), .val (.int c0), .val (.int c1), .val (.int c2)] [(.int (0 : Int32))])) _
      refine XS.ifNo X0.here hx rfl (hb hby d_method_4_code_1) rfl ((if0 _ _).trans (teq ((by decide) : (0 : Int32) = (0 : Int32))).2) ?_
      show Steps p.tables e below (s₁.setTop (mkF m 4 #[.val (.int (0 : Int32)), .val (.int c0), .val (.int c1), .val (.int c2)] [])) _
      refine st301 _ ?_
      show Steps p.tables e below (T301.setTop (mkF m 7 #[.val (.int (0 : Int32)), .val (.int c0), .val (.int c1), .val (.int c2)] [(.ref b301)])) _
      refine XS.dup X301.here hx rfl (hb hby d_method_4_code_7) rfl rfl ?_
      show Steps p.tables e below (T301.setTop (mkF m 8 #[.val (.int (0 : Int32)), .val (.int c0), .val (.int c1), .val (.int c2)] [(.ref b301), (.ref b301)])) _
      refine XS.iconst X301.here hx rfl (hb hby d_method_4_code_8) ?_
      show Steps p.tables e below (T301.setTop (mkF m 9 #[.val (.int (0 : Int32)), .val (.int c0), .val (.int c1), .val (.int c2)] [(.int (0 : Int32)), (.ref b301), (.ref b301)])) _
      refine st305 _ ?_
      show Steps p.tables e below (T305.setTop (mkF m 11 #[.val (.int (0 : Int32)), .val (.int c0), .val (.int c1), .val (.int c2)] [(.ref b305), (.ref b301), (.ref b301)])) _
      refine st314.trans ?_
      show Steps p.tables e below (T314.setTop (mkF m 14 #[.val (.int (0 : Int32)), .val (.int c0), .val (.int c1), .val (.int c2)] [(.ref b301)])) _
      jvm_step X314.here [X314.here.top, hx, (hb hby d_method_4_code_14), X314.method', Bd.returns, Value.isRef, FieldType.isReference]
      first | (intro acts; rw [hr _ acts rfl rfl rfl]) | rw [hr _ _ rfl rfl rfl]
      exact Steps.refl _
    · show Q_str Z 0 c0 c1 c2 G h0 n0 _ T314.heap _
      exact ⟨b301, tt_314, kt_314, (0 : Int32), [], rfl, N314, ((((Keep.refl h0 ([] : List Addr)).ext E301).ext E305).trans K314 (allS (Or.inr (Nat.le_trans (Nat.le_refl _) (Nat.le_of_eq g301.symm))) all0)), (Nat.le_trans (Nat.le_refl _) (Nat.le_of_eq g301.symm)), c318, f314_0, f314_1, f314_2, Or.inl ⟨rfl, rfl, rfl, by simp⟩⟩
  · subst hq
    obtain ⟨T319, h319, X319, e319, E319, A319, D319, -, st319⟩ := newO X0 hx hZ0 hown0 (hw _ (List.mem_of_getElem? (i := 8) rfl)) (hw _ (List.mem_of_getElem? (i := 9) rfl)) (hw _ (List.mem_of_getElem? (i := 10) rfl)) e0 (g := (mkF m 20 #[.val (.int (1 : Int32)), .val (.int c0), .val (.int c1), .val (.int c2)] [])) rfl (hb hby d_method_4_code_20) (by decide) (by decide)
    obtain ⟨b319, g319⟩ : ∃ z, z = h0.size := ⟨_, rfl⟩
    rw [← g319] at A319 D319 st319
    have sf320 : Safe Z [("java/lang/String", 7)] s.vm h0 b319 := Safe.new (Nat.le_of_eq g319.symm)
    have CR321 : CHr Z [("java/lang/String", 7)] s.vm h0 s.vm h319 := CR0.trans (CHr.ext E319 CR0.1)
    have sf322 : Safe Z [("java/lang/String", 7)] s.vm h319 b319 := Safe.ext E319 CR0.1 sf320
    have D319_value : Fld Z h319 b319 "java/lang/String" "value" "[B" .null := D319 (Or.inr (hw _ (List.mem_of_getElem? (i := 23) rfl))) (ty := (.array .byte)) (by decide)
    have D319_coder : Fld Z h319 b319 "java/lang/String" "coder" "B" (.int (0 : Int32)) := D319 (Or.inr (hw _ (List.mem_of_getElem? (i := 24) rfl))) (ty := .byte) (by decide)
    obtain ⟨T323, h323, ky323, X323, e323, E323, A323, st323⟩ := newP X319 hx hZ0 (hw _ (List.mem_of_getElem? (i := 4) rfl)) e319 (g := (mkF m 25 #[.val (.int (1 : Int32)), .val (.int c0), .val (.int c1), .val (.int c2)] [(.int (1 : Int32)), (.ref b319), (.ref b319)])) rfl (hb hby d_method_4_code_25) rfl ((by decide) : ¬ ((1 : Int32) < (0 : Int32))) (cap := 1) ((by decide) : (1 : Int32).toNatClampNeg ≤ 1) (by decide) (by decide) (by decide)
    obtain ⟨b323, g323⟩ : ∃ z, z = h319.size := ⟨_, rfl⟩
    rw [← g323] at A323 st323
    have sf324 : Safe Z [("java/lang/String", 7)] s.vm h319 b323 := Safe.new (Nat.le_of_eq g323.symm)
    have CR325 : CHr Z [("java/lang/String", 7)] s.vm h0 s.vm h323 := CR321.trans (CHr.ext E323 CR321.1)
    have sf326 : Safe Z [("java/lang/String", 7)] s.vm h323 b319 := Safe.ext E323 CR321.1 sf322
    have sf327 : Safe Z [("java/lang/String", 7)] s.vm h323 b323 := Safe.ext E323 CR321.1 sf324
    have V323 : Arv Z h323 b323 ky323 .char (1 : Int32) [] (.int (0 : Int32)) := Arv.new A323 (by decide)
    have U323 : Arv Z h323 b323 ky323 .char (1 : Int32) [(.int (0 : Int32))] (.int (0 : Int32)) := V323.pad (pad_rep [] (.int (0 : Int32)) 1)
    have ge329 : n0 ≤ b323 := Nat.le_trans Z0 (Nat.le_trans E319.1 (Nat.le_of_eq g323.symm))
    obtain ⟨cl328, Ar328, qq328, S328, M328, Hh328, U328⟩ := id U323
    obtain ⟨T328, h328, X328, e328, W328, st328⟩ := stC X323 hx hZ0 e323 Ar328 (j := (0 : Int32)) (inb_of S328 ⟨(by decide : ¬ ((0 : Int32) < (0 : Int32))), (by decide : (0 : Int32) < (1 : Int32))⟩) (g := (mkF m 30 #[.val (.int (1 : Int32)), .val (.int c0), .val (.int c1), .val (.int c2)] [(.int c0), (.int (0 : Int32)), (.ref b323), (.ref b323), (.ref b319), (.ref b319)])) rfl rfl (hb hby d_method_4_code_30)
    have N328 := Fr.snoc X328 N0 ge329
    have CR330 : CHr Z [("java/lang/String", 7)] s.vm h0 s.vm h328 := CR325.trans (CHr.wr W328 sf327 CR325.1)
    have sf331 : Safe Z [("java/lang/String", 7)] s.vm h328 b319 := Safe.wr W328 sf327 CR325.1 sf326
    have sf332 : Safe Z [("java/lang/String", 7)] s.vm h328 b323 := Safe.wr W328 sf327 CR325.1 sf327
    have V328 : Arv Z h328 b323 ky323 .char (1 : Int32) [(.int (nar .char c0))] (.int (0 : Int32)) := Arv.set Ar328 qq328 S328 M328 Hh328 U328 (fits_nar_char _) W328 0 rfl (Nat.le_of_ble_eq_true rfl)
    have VR328 : Arv Z h328 b323 ky323 .char (1 : Int32) [(.int c0)] (.int (0 : Int32)) := by have q := V328; rw [hl0.1] at q; exact q
    have c334 : Old Z n0 h328 := (((q2.ext E319).ext E323).wr W328 ge329)
    have hp335 : ∀ c ∈ ([c0] : List Int32), ¬ c < 0 ∧ ¬ (255 : Int32) < c := by
      intro c hc
      simp only [List.mem_cons, List.not_mem_nil, or_false] at hc
      rcases hc with rfl
      · exact hl0.2
    have c336 : Exa Z h328 b319 "java/lang/String" := ((A319.ext E323).wr W328)
    have ne337 : b319 ≠ b323 := Nat.ne_of_lt (Nat.lt_of_lt_of_le D319_value.lt (Nat.le_of_eq g323.symm))
    have c338 : Fld Z h328 b319 "java/lang/String" "value" "[B" .null := ((D319_value.ext E323).other W328 (Or.inl ne337))
    have c339 : Fld Z h328 b319 "java/lang/String" "coder" "B" (.int (0 : Int32)) := ((D319_coder.ext E323).other W328 (Or.inl ne337))
    have ge340 : n0 ≤ b319 := Nat.le_trans Z0 (Nat.le_trans (Nat.le_refl _) (Nat.le_of_eq g319.symm))
    obtain ⟨_, _, ⟨T333, L333, k333, n333⟩, -, X333, ⟨Lc333, hQ333, l333, y333, z333⟩, st333⟩ := X328.specialBack hx (y := (⟨"java/lang/String", "<init>", "([C)V"⟩ : MethodName)) rfl hown0 (mvT hZ0 (hw _ (List.mem_of_getElem? (i := 11) rfl))) (mvT hZ0 (hw _ (List.mem_of_getElem? (i := 12) rfl))) (mvT hZ0 (hw _ (List.mem_of_getElem? (i := 13) rfl))) (by decide) (StrChars.Road.backV (W := 1) hZ0 (own_hw_backV hw) (kI := 4) (hw _ (List.mem_of_getElem? (i := 9) rfl)) (cs := ([c0] : List Int32)) (bs := (([c0] : List Int32)).map (fun c => c.toInt8.toInt32)) (n := 1) ge340 (Nat.le_trans Z0 (Nat.le_trans (Nat.le_trans E319.1 E323.1) (Keep.of_wr W328).1)) c336 c338 c339 VR328 (q0.ext c334.2) hCS rfl rfl (by decide) (by decide) hp335 rfl (by decide) (by decide)) (g := (mkF m 31 #[.val (.int (1 : Int32)), .val (.int c0), .val (.int c1), .val (.int c2)] [(.ref b323), (.ref b319), (.ref b319)])) rfl (by rw [hml]; rfl) (Steps.refl _) (a := b319) (argsL := [(.ref b323)]) (rest := [(.ref b319)]) (lenOf pd_17 rfl) rfl (by show 2 * 0 + _ ≤ _; exact Nat.le_of_eq rfl) (hb hby d_method_4_code_31) (fun _ _ => ⟨rfl, e328, (by decide : 2 + 1 ≤ _), (by decide : 5 + 1 ≤ _)⟩)
    dsimp only [Pt.U, Pt.locs, Pt.cells, Pt.slots] at X333 l333 y333 z333 st333 hQ333
    subst l333 y333 z333
    obtain ⟨rfl, Nq333, K333, fE333, fC333, t333, kb333, gt333, sz333, nt333, fV333, fA333⟩ := hQ333
    have N333 := Fr.app N328 Nq333
    have sf341 : Safe Z [("java/lang/String", 7)] s.vm h328 t333 := Safe.new sz333
    have CR342 : CHr Z [("java/lang/String", 7)] s.vm h0 s.vm T333.heap := CR330.trans (CHr.keep K333 (sfS sf331 sf0) CR330.1)
    have sf343 : Safe Z [("java/lang/String", 7)] s.vm T333.heap b319 := Safe.keep K333 (sfS sf331 sf0) CR330.1 sf331
    have sf344 : Safe Z [("java/lang/String", 7)] s.vm T333.heap b323 := Safe.keep K333 (sfS sf331 sf0) CR330.1 sf332
    have sf345 : Safe Z [("java/lang/String", 7)] s.vm T333.heap t333 := Safe.keep K333 (sfS sf331 sf0) CR330.1 sf341
    have hcd333 : StrChars.Road.CodA ([c0] : List Int32) 0 (1 : Int32) (((([c0] : List Int32)).map (fun c => c.toInt8.toInt32)).map Value.int) := StrChars.Road.codOf (n := 1) rfl (fun c hc => (hp335 c hc).2)
    obtain ⟨fs, hr, hrun, hended, hEnd⟩ := X333.leaveW hS0 (Nat.le_trans hk0 (Nat.le_trans (Nat.le_trans (Nat.le_trans E319.1 E323.1) (Keep.of_wr W328).1) K333.1)) (v := some (.ref b319)) (fun h => by rw [Bd.returns] at h; cases h)
    refine ⟨_, _, pre0 _ ?_, hrun, hended, _, _, rfl, ?_, (by rw [hh]; show CHr Z [("java/lang/String", 7)] s.vm h0 T333.vm T333.heap; exact CR342.trans (CHv.at X333 hZ0 (own_EW hw) CR342.1)), hEnd.1, hEnd.2.1, hEnd.2.2.1, hEnd.2.2.2.mono (by decide) (by decide)⟩
    · refine XS.iloadN X0.here hx rfl (hb hby d_method_4_code_0) rfl ?_
      show Steps p.tables e below (s₁.setTop (mkF m 1 #[.val (.int (1 : Int32)), .val (.int c0), .val (.int c1), .val (.int c2)] [(.int (1 : Int32))])) _
      refine XS.ifYes X0.here hx rfl (pc0 := 1) (pc' := 15) rfl (hb hby d_method_4_code_1) rfl ((if0 _ _).trans (feq ((by decide) : ¬ ((1 : Int32) = (0 : Int32)))).2) (by decide) (by decide) ?_
      show Steps p.tables e below (s₁.setTop (mkF m 15 #[.val (.int (1 : Int32)), .val (.int c0), .val (.int c1), .val (.int c2)] [])) _
      refine XS.iloadN X0.here hx rfl (hb hby d_method_4_code_15) rfl ?_
      show Steps p.tables e below (s₁.setTop (mkF m 16 #[.val (.int (1 : Int32)), .val (.int c0), .val (.int c1), .val (.int c2)] [(.int (1 : Int32))])) _
      refine XS.iconst X0.here hx rfl (hb hby d_method_4_code_16) ?_
      show Steps p.tables e below (s₁.setTop (mkF m 17 #[.val (.int (1 : Int32)), .val (.int c0), .val (.int c1), .val (.int c2)] [(.int (1 : Int32)), (.int (1 : Int32))])) _
      refine XS.icmpNo X0.here hx rfl (hb hby d_method_4_code_17) rfl (teq ((by decide) : (1 : Int32) = (1 : Int32))).2 ?_
      show Steps p.tables e below (s₁.setTop (mkF m 20 #[.val (.int (1 : Int32)), .val (.int c0), .val (.int c1), .val (.int c2)] [])) _
      refine st319 _ ?_
      show Steps p.tables e below (T319.setTop (mkF m 23 #[.val (.int (1 : Int32)), .val (.int c0), .val (.int c1), .val (.int c2)] [(.ref b319)])) _
      refine XS.dup X319.here hx rfl (hb hby d_method_4_code_23) rfl rfl ?_
      show Steps p.tables e below (T319.setTop (mkF m 24 #[.val (.int (1 : Int32)), .val (.int c0), .val (.int c1), .val (.int c2)] [(.ref b319), (.ref b319)])) _
      refine XS.iconst X319.here hx rfl (hb hby d_method_4_code_24) ?_
      show Steps p.tables e below (T319.setTop (mkF m 25 #[.val (.int (1 : Int32)), .val (.int c0), .val (.int c1), .val (.int c2)] [(.int (1 : Int32)), (.ref b319), (.ref b319)])) _
      refine st323 _ ?_
      show Steps p.tables e below (T323.setTop (mkF m 27 #[.val (.int (1 : Int32)), .val (.int c0), .val (.int c1), .val (.int c2)] [(.ref b323), (.ref b319), (.ref b319)])) _
      refine XS.dup X323.here hx rfl (hb hby d_method_4_code_27) rfl rfl ?_
      show Steps p.tables e below (T323.setTop (mkF m 28 #[.val (.int (1 : Int32)), .val (.int c0), .val (.int c1), .val (.int c2)] [(.ref b323), (.ref b323), (.ref b319), (.ref b319)])) _
      refine XS.iconst X323.here hx rfl (hb hby d_method_4_code_28) ?_
      show Steps p.tables e below (T323.setTop (mkF m 29 #[.val (.int (1 : Int32)), .val (.int c0), .val (.int c1), .val (.int c2)] [(.int (0 : Int32)), (.ref b323), (.ref b323), (.ref b319), (.ref b319)])) _
      refine XS.iloadN X323.here hx rfl (hb hby d_method_4_code_29) rfl ?_
      show Steps p.tables e below (T323.setTop (mkF m 30 #[.val (.int (1 : Int32)), .val (.int c0), .val (.int c1), .val (.int c2)] [(.int c0), (.int (0 : Int32)), (.ref b323), (.ref b323), (.ref b319), (.ref b319)])) _
      refine st328 _ ?_
      show Steps p.tables e below (T328.setTop (mkF m 31 #[.val (.int (1 : Int32)), .val (.int c0), .val (.int c1), .val (.int c2)] [(.ref b323), (.ref b319), (.ref b319)])) _
      refine st333.trans ?_
      show Steps p.tables e below (T333.setTop (mkF m 34 #[.val (.int (1 : Int32)), .val (.int c0), .val (.int c1), .val (.int c2)] [(.ref b319)])) _
      jvm_step X333.here [X333.here.top, hx, (hb hby d_method_4_code_34), X333.method', Bd.returns, Value.isRef, FieldType.isReference]
      first | (intro acts; rw [hr _ acts rfl rfl rfl]) | rw [hr _ _ rfl rfl rfl]
      exact Steps.refl _
    · show Q_str Z 1 c0 c1 c2 G h0 n0 _ T333.heap _
      exact ⟨b319, t333, kb333, (1 : Int32), (((([c0] : List Int32)).map (fun c => c.toInt8.toInt32)).map Value.int), rfl, N333, (((((Keep.refl h0 ([] : List Addr)).ext E319).ext E323).wr W328 (Or.inr (Nat.le_trans E319.1 (Nat.le_of_eq g323.symm)))).trans K333 (allS (Or.inr (Nat.le_trans (Nat.le_refl _) (Nat.le_of_eq g319.symm))) all0)), (Nat.le_trans (Nat.le_refl _) (Nat.le_of_eq g319.symm)), fE333, fV333, fC333, fA333, (by exact hcd333)⟩
  · subst hq
    obtain ⟨T346, h346, X346, e346, E346, A346, D346, -, st346⟩ := newO X0 hx hZ0 hown0 (hw _ (List.mem_of_getElem? (i := 8) rfl)) (hw _ (List.mem_of_getElem? (i := 9) rfl)) (hw _ (List.mem_of_getElem? (i := 10) rfl)) e0 (g := (mkF m 40 #[.val (.int (2 : Int32)), .val (.int c0), .val (.int c1), .val (.int c2)] [])) rfl (hb hby d_method_4_code_40) (by decide) (by decide)
    obtain ⟨b346, g346⟩ : ∃ z, z = h0.size := ⟨_, rfl⟩
    rw [← g346] at A346 D346 st346
    have sf347 : Safe Z [("java/lang/String", 7)] s.vm h0 b346 := Safe.new (Nat.le_of_eq g346.symm)
    have CR348 : CHr Z [("java/lang/String", 7)] s.vm h0 s.vm h346 := CR0.trans (CHr.ext E346 CR0.1)
    have sf349 : Safe Z [("java/lang/String", 7)] s.vm h346 b346 := Safe.ext E346 CR0.1 sf347
    have D346_value : Fld Z h346 b346 "java/lang/String" "value" "[B" .null := D346 (Or.inr (hw _ (List.mem_of_getElem? (i := 23) rfl))) (ty := (.array .byte)) (by decide)
    have D346_coder : Fld Z h346 b346 "java/lang/String" "coder" "B" (.int (0 : Int32)) := D346 (Or.inr (hw _ (List.mem_of_getElem? (i := 24) rfl))) (ty := .byte) (by decide)
    obtain ⟨T350, h350, ky350, X350, e350, E350, A350, st350⟩ := newP X346 hx hZ0 (hw _ (List.mem_of_getElem? (i := 4) rfl)) e346 (g := (mkF m 45 #[.val (.int (2 : Int32)), .val (.int c0), .val (.int c1), .val (.int c2)] [(.int (2 : Int32)), (.ref b346), (.ref b346)])) rfl (hb hby d_method_4_code_45) rfl ((by decide) : ¬ ((2 : Int32) < (0 : Int32))) (cap := 2) ((by decide) : (2 : Int32).toNatClampNeg ≤ 2) (by decide) (by decide) (by decide)
    obtain ⟨b350, g350⟩ : ∃ z, z = h346.size := ⟨_, rfl⟩
    rw [← g350] at A350 st350
    have sf351 : Safe Z [("java/lang/String", 7)] s.vm h346 b350 := Safe.new (Nat.le_of_eq g350.symm)
    have CR352 : CHr Z [("java/lang/String", 7)] s.vm h0 s.vm h350 := CR348.trans (CHr.ext E350 CR348.1)
    have sf353 : Safe Z [("java/lang/String", 7)] s.vm h350 b346 := Safe.ext E350 CR348.1 sf349
    have sf354 : Safe Z [("java/lang/String", 7)] s.vm h350 b350 := Safe.ext E350 CR348.1 sf351
    have V350 : Arv Z h350 b350 ky350 .char (2 : Int32) [] (.int (0 : Int32)) := Arv.new A350 (by decide)
    have U350 : Arv Z h350 b350 ky350 .char (2 : Int32) [(.int (0 : Int32)), (.int (0 : Int32))] (.int (0 : Int32)) := V350.pad (pad_rep [] (.int (0 : Int32)) 2)
    have ge356 : n0 ≤ b350 := Nat.le_trans Z0 (Nat.le_trans E346.1 (Nat.le_of_eq g350.symm))
    obtain ⟨cl355, Ar355, qq355, S355, M355, Hh355, U355⟩ := id U350
    obtain ⟨T355, h355, X355, e355, W355, st355⟩ := stC X350 hx hZ0 e350 Ar355 (j := (0 : Int32)) (inb_of S355 ⟨(by decide : ¬ ((0 : Int32) < (0 : Int32))), (by decide : (0 : Int32) < (2 : Int32))⟩) (g := (mkF m 50 #[.val (.int (2 : Int32)), .val (.int c0), .val (.int c1), .val (.int c2)] [(.int c0), (.int (0 : Int32)), (.ref b350), (.ref b350), (.ref b346), (.ref b346)])) rfl rfl (hb hby d_method_4_code_50)
    have N355 := Fr.snoc X355 N0 ge356
    have CR357 : CHr Z [("java/lang/String", 7)] s.vm h0 s.vm h355 := CR352.trans (CHr.wr W355 sf354 CR352.1)
    have sf358 : Safe Z [("java/lang/String", 7)] s.vm h355 b346 := Safe.wr W355 sf354 CR352.1 sf353
    have sf359 : Safe Z [("java/lang/String", 7)] s.vm h355 b350 := Safe.wr W355 sf354 CR352.1 sf354
    have V355 : Arv Z h355 b350 ky350 .char (2 : Int32) [(.int (nar .char c0)), (.int (0 : Int32))] (.int (0 : Int32)) := Arv.set Ar355 qq355 S355 M355 Hh355 U355 (fits_nar_char _) W355 0 rfl (Nat.le_of_ble_eq_true rfl)
    have VR355 : Arv Z h355 b350 ky350 .char (2 : Int32) [(.int c0), (.int (0 : Int32))] (.int (0 : Int32)) := by have q := V355; rw [hl0.1] at q; exact q
    obtain ⟨cl360, Ar360, qq360, S360, M360, Hh360, U360⟩ := id VR355
    obtain ⟨T360, h360, X360, e360, W360, st360⟩ := stC X355 hx hZ0 e355 Ar360 (j := (1 : Int32)) (inb_of S360 ⟨(by decide : ¬ ((1 : Int32) < (0 : Int32))), (by decide : (1 : Int32) < (2 : Int32))⟩) (g := (mkF m 54 #[.val (.int (2 : Int32)), .val (.int c0), .val (.int c1), .val (.int c2)] [(.int c1), (.int (1 : Int32)), (.ref b350), (.ref b350), (.ref b346), (.ref b346)])) rfl rfl (hb hby d_method_4_code_54)
    have N360 := Fr.snoc X360 N355 ge356
    have CR361 : CHr Z [("java/lang/String", 7)] s.vm h0 s.vm h360 := CR357.trans (CHr.wr W360 sf359 CR357.1)
    have sf362 : Safe Z [("java/lang/String", 7)] s.vm h360 b346 := Safe.wr W360 sf359 CR357.1 sf358
    have sf363 : Safe Z [("java/lang/String", 7)] s.vm h360 b350 := Safe.wr W360 sf359 CR357.1 sf359
    have V360 : Arv Z h360 b350 ky350 .char (2 : Int32) [(.int c0), (.int (nar .char c1))] (.int (0 : Int32)) := Arv.set Ar360 qq360 S360 M360 Hh360 U360 (fits_nar_char _) W360 1 rfl (Nat.le_of_ble_eq_true rfl)
    have VR360 : Arv Z h360 b350 ky350 .char (2 : Int32) [(.int c0), (.int c1)] (.int (0 : Int32)) := by have q := V360; rw [hl1.1] at q; exact q
    have c365 : Old Z n0 h360 := ((((q2.ext E346).ext E350).wr W355 ge356).wr W360 ge356)
    have hp366 : ∀ c ∈ ([c0, c1] : List Int32), ¬ c < 0 ∧ ¬ (255 : Int32) < c := by
      intro c hc
      simp only [List.mem_cons, List.not_mem_nil, or_false] at hc
      rcases hc with rfl | rfl
      · exact hl0.2
      · exact hl1.2
    have c367 : Exa Z h360 b346 "java/lang/String" := (((A346.ext E350).wr W355).wr W360)
    have ne368 : b346 ≠ b350 := Nat.ne_of_lt (Nat.lt_of_lt_of_le D346_value.lt (Nat.le_of_eq g350.symm))
    have c369 : Fld Z h360 b346 "java/lang/String" "value" "[B" .null := (((D346_value.ext E350).other W355 (Or.inl ne368)).other W360 (Or.inl ne368))
    have c370 : Fld Z h360 b346 "java/lang/String" "coder" "B" (.int (0 : Int32)) := (((D346_coder.ext E350).other W355 (Or.inl ne368)).other W360 (Or.inl ne368))
    have ge371 : n0 ≤ b346 := Nat.le_trans Z0 (Nat.le_trans (Nat.le_refl _) (Nat.le_of_eq g346.symm))
    obtain ⟨_, _, ⟨T364, L364, k364, n364⟩, -, X364, ⟨Lc364, hQ364, l364, y364, z364⟩, st364⟩ := X360.specialBack hx (y := (⟨"java/lang/String", "<init>", "([C)V"⟩ : MethodName)) rfl hown0 (mvT hZ0 (hw _ (List.mem_of_getElem? (i := 11) rfl))) (mvT hZ0 (hw _ (List.mem_of_getElem? (i := 12) rfl))) (mvT hZ0 (hw _ (List.mem_of_getElem? (i := 13) rfl))) (by decide) (StrChars.Road.backV (W := 1) hZ0 (own_hw_backV hw) (kI := 4) (hw _ (List.mem_of_getElem? (i := 9) rfl)) (cs := ([c0, c1] : List Int32)) (bs := (([c0, c1] : List Int32)).map (fun c => c.toInt8.toInt32)) (n := 2) ge371 (Nat.le_trans Z0 (Nat.le_trans (Nat.le_trans (Nat.le_trans E346.1 E350.1) (Keep.of_wr W355).1) (Keep.of_wr W360).1)) c367 c369 c370 VR360 (q0.ext c365.2) hCS rfl rfl (by decide) (by decide) hp366 rfl (by decide) (by decide)) (g := (mkF m 55 #[.val (.int (2 : Int32)), .val (.int c0), .val (.int c1), .val (.int c2)] [(.ref b350), (.ref b346), (.ref b346)])) rfl (by rw [hml]; rfl) (Steps.refl _) (a := b346) (argsL := [(.ref b350)]) (rest := [(.ref b346)]) (lenOf pd_17 rfl) rfl (by show 2 * 0 + _ ≤ _; exact Nat.le_of_eq rfl) (hb hby d_method_4_code_55) (fun _ _ => ⟨rfl, e360, (by decide : 2 + 1 ≤ _), (by decide : 6 + 2 ≤ _)⟩)
    dsimp only [Pt.U, Pt.locs, Pt.cells, Pt.slots] at X364 l364 y364 z364 st364 hQ364
    subst l364 y364 z364
    obtain ⟨rfl, Nq364, K364, fE364, fC364, t364, kb364, gt364, sz364, nt364, fV364, fA364⟩ := hQ364
    have N364 := Fr.app N360 Nq364
    have sf372 : Safe Z [("java/lang/String", 7)] s.vm h360 t364 := Safe.new sz364
    have CR373 : CHr Z [("java/lang/String", 7)] s.vm h0 s.vm T364.heap := CR361.trans (CHr.keep K364 (sfS sf362 sf0) CR361.1)
    have sf374 : Safe Z [("java/lang/String", 7)] s.vm T364.heap b346 := Safe.keep K364 (sfS sf362 sf0) CR361.1 sf362
    have sf375 : Safe Z [("java/lang/String", 7)] s.vm T364.heap b350 := Safe.keep K364 (sfS sf362 sf0) CR361.1 sf363
    have sf376 : Safe Z [("java/lang/String", 7)] s.vm T364.heap t364 := Safe.keep K364 (sfS sf362 sf0) CR361.1 sf372
    have hcd364 : StrChars.Road.CodA ([c0, c1] : List Int32) 0 (2 : Int32) (((([c0, c1] : List Int32)).map (fun c => c.toInt8.toInt32)).map Value.int) := StrChars.Road.codOf (n := 2) rfl (fun c hc => (hp366 c hc).2)
    obtain ⟨fs, hr, hrun, hended, hEnd⟩ := X364.leaveW hS0 (Nat.le_trans hk0 (Nat.le_trans (Nat.le_trans (Nat.le_trans (Nat.le_trans E346.1 E350.1) (Keep.of_wr W355).1) (Keep.of_wr W360).1) K364.1)) (v := some (.ref b346)) (fun h => by rw [Bd.returns] at h; cases h)
    refine ⟨_, _, pre0 _ ?_, hrun, hended, _, _, rfl, ?_, (by rw [hh]; show CHr Z [("java/lang/String", 7)] s.vm h0 T364.vm T364.heap; exact CR373.trans (CHv.at X364 hZ0 (own_EW hw) CR373.1)), hEnd.1, hEnd.2.1, hEnd.2.2.1, hEnd.2.2.2.mono (by decide) (by decide)⟩
    · refine XS.iloadN X0.here hx rfl (hb hby d_method_4_code_0) rfl ?_
      show Steps p.tables e below (s₁.setTop (mkF m 1 #[.val (.int (2 : Int32)), .val (.int c0), .val (.int c1), .val (.int c2)] [(.int (2 : Int32))])) _
      refine XS.ifYes X0.here hx rfl (pc0 := 1) (pc' := 15) rfl (hb hby d_method_4_code_1) rfl ((if0 _ _).trans (feq ((by decide) : ¬ ((2 : Int32) = (0 : Int32)))).2) (by decide) (by decide) ?_
      show Steps p.tables e below (s₁.setTop (mkF m 15 #[.val (.int (2 : Int32)), .val (.int c0), .val (.int c1), .val (.int c2)] [])) _
      refine XS.iloadN X0.here hx rfl (hb hby d_method_4_code_15) rfl ?_
      show Steps p.tables e below (s₁.setTop (mkF m 16 #[.val (.int (2 : Int32)), .val (.int c0), .val (.int c1), .val (.int c2)] [(.int (2 : Int32))])) _
      refine XS.iconst X0.here hx rfl (hb hby d_method_4_code_16) ?_
      show Steps p.tables e below (s₁.setTop (mkF m 17 #[.val (.int (2 : Int32)), .val (.int c0), .val (.int c1), .val (.int c2)] [(.int (1 : Int32)), (.int (2 : Int32))])) _
      refine XS.icmpYes X0.here hx rfl (pc0 := 17) (pc' := 35) rfl (hb hby d_method_4_code_17) rfl (feq ((by decide) : ¬ ((2 : Int32) = (1 : Int32)))).2 (by decide) (by decide) ?_
      show Steps p.tables e below (s₁.setTop (mkF m 35 #[.val (.int (2 : Int32)), .val (.int c0), .val (.int c1), .val (.int c2)] [])) _
      refine XS.iloadN X0.here hx rfl (hb hby d_method_4_code_35) rfl ?_
      show Steps p.tables e below (s₁.setTop (mkF m 36 #[.val (.int (2 : Int32)), .val (.int c0), .val (.int c1), .val (.int c2)] [(.int (2 : Int32))])) _
      refine XS.iconst X0.here hx rfl (hb hby d_method_4_code_36) ?_
      show Steps p.tables e below (s₁.setTop (mkF m 37 #[.val (.int (2 : Int32)), .val (.int c0), .val (.int c1), .val (.int c2)] [(.int (2 : Int32)), (.int (2 : Int32))])) _
      refine XS.icmpNo X0.here hx rfl (hb hby d_method_4_code_37) rfl (teq ((by decide) : (2 : Int32) = (2 : Int32))).2 ?_
      show Steps p.tables e below (s₁.setTop (mkF m 40 #[.val (.int (2 : Int32)), .val (.int c0), .val (.int c1), .val (.int c2)] [])) _
      refine st346 _ ?_
      show Steps p.tables e below (T346.setTop (mkF m 43 #[.val (.int (2 : Int32)), .val (.int c0), .val (.int c1), .val (.int c2)] [(.ref b346)])) _
      refine XS.dup X346.here hx rfl (hb hby d_method_4_code_43) rfl rfl ?_
      show Steps p.tables e below (T346.setTop (mkF m 44 #[.val (.int (2 : Int32)), .val (.int c0), .val (.int c1), .val (.int c2)] [(.ref b346), (.ref b346)])) _
      refine XS.iconst X346.here hx rfl (hb hby d_method_4_code_44) ?_
      show Steps p.tables e below (T346.setTop (mkF m 45 #[.val (.int (2 : Int32)), .val (.int c0), .val (.int c1), .val (.int c2)] [(.int (2 : Int32)), (.ref b346), (.ref b346)])) _
      refine st350 _ ?_
      show Steps p.tables e below (T350.setTop (mkF m 47 #[.val (.int (2 : Int32)), .val (.int c0), .val (.int c1), .val (.int c2)] [(.ref b350), (.ref b346), (.ref b346)])) _
      refine XS.dup X350.here hx rfl (hb hby d_method_4_code_47) rfl rfl ?_
      show Steps p.tables e below (T350.setTop (mkF m 48 #[.val (.int (2 : Int32)), .val (.int c0), .val (.int c1), .val (.int c2)] [(.ref b350), (.ref b350), (.ref b346), (.ref b346)])) _
      refine XS.iconst X350.here hx rfl (hb hby d_method_4_code_48) ?_
      show Steps p.tables e below (T350.setTop (mkF m 49 #[.val (.int (2 : Int32)), .val (.int c0), .val (.int c1), .val (.int c2)] [(.int (0 : Int32)), (.ref b350), (.ref b350), (.ref b346), (.ref b346)])) _
      refine XS.iloadN X350.here hx rfl (hb hby d_method_4_code_49) rfl ?_
      show Steps p.tables e below (T350.setTop (mkF m 50 #[.val (.int (2 : Int32)), .val (.int c0), .val (.int c1), .val (.int c2)] [(.int c0), (.int (0 : Int32)), (.ref b350), (.ref b350), (.ref b346), (.ref b346)])) _
      refine st355 _ ?_
      show Steps p.tables e below (T355.setTop (mkF m 51 #[.val (.int (2 : Int32)), .val (.int c0), .val (.int c1), .val (.int c2)] [(.ref b350), (.ref b346), (.ref b346)])) _
      refine XS.dup X355.here hx rfl (hb hby d_method_4_code_51) rfl rfl ?_
      show Steps p.tables e below (T355.setTop (mkF m 52 #[.val (.int (2 : Int32)), .val (.int c0), .val (.int c1), .val (.int c2)] [(.ref b350), (.ref b350), (.ref b346), (.ref b346)])) _
      refine XS.iconst X355.here hx rfl (hb hby d_method_4_code_52) ?_
      show Steps p.tables e below (T355.setTop (mkF m 53 #[.val (.int (2 : Int32)), .val (.int c0), .val (.int c1), .val (.int c2)] [(.int (1 : Int32)), (.ref b350), (.ref b350), (.ref b346), (.ref b346)])) _
      refine XS.iloadN X355.here hx rfl (hb hby d_method_4_code_53) rfl ?_
      show Steps p.tables e below (T355.setTop (mkF m 54 #[.val (.int (2 : Int32)), .val (.int c0), .val (.int c1), .val (.int c2)] [(.int c1), (.int (1 : Int32)), (.ref b350), (.ref b350), (.ref b346), (.ref b346)])) _
      refine st360 _ ?_
      show Steps p.tables e below (T360.setTop (mkF m 55 #[.val (.int (2 : Int32)), .val (.int c0), .val (.int c1), .val (.int c2)] [(.ref b350), (.ref b346), (.ref b346)])) _
      refine st364.trans ?_
      show Steps p.tables e below (T364.setTop (mkF m 58 #[.val (.int (2 : Int32)), .val (.int c0), .val (.int c1), .val (.int c2)] [(.ref b346)])) _
      jvm_step X364.here [X364.here.top, hx, (hb hby d_method_4_code_58), X364.method', Bd.returns, Value.isRef, FieldType.isReference]
      first | (intro acts; rw [hr _ acts rfl rfl rfl]) | rw [hr _ _ rfl rfl rfl]
      exact Steps.refl _
    · show Q_str Z 2 c0 c1 c2 G h0 n0 _ T364.heap _
      exact ⟨b346, t364, kb364, (2 : Int32), (((([c0, c1] : List Int32)).map (fun c => c.toInt8.toInt32)).map Value.int), rfl, N364, ((((((Keep.refl h0 ([] : List Addr)).ext E346).ext E350).wr W355 (Or.inr (Nat.le_trans E346.1 (Nat.le_of_eq g350.symm)))).wr W360 (Or.inr (Nat.le_trans E346.1 (Nat.le_of_eq g350.symm)))).trans K364 (allS (Or.inr (Nat.le_trans (Nat.le_refl _) (Nat.le_of_eq g346.symm))) all0)), (Nat.le_trans (Nat.le_refl _) (Nat.le_of_eq g346.symm)), fE364, fV364, fC364, fA364, (by exact hcd364)⟩
  · subst hq
    obtain ⟨T377, h377, X377, e377, E377, A377, D377, -, st377⟩ := newO X0 hx hZ0 hown0 (hw _ (List.mem_of_getElem? (i := 8) rfl)) (hw _ (List.mem_of_getElem? (i := 9) rfl)) (hw _ (List.mem_of_getElem? (i := 10) rfl)) e0 (g := (mkF m 59 #[.val (.int (3 : Int32)), .val (.int c0), .val (.int c1), .val (.int c2)] [])) rfl (hb hby d_method_4_code_59) (by decide) (by decide)
    obtain ⟨b377, g377⟩ : ∃ z, z = h0.size := ⟨_, rfl⟩
    rw [← g377] at A377 D377 st377
    have sf378 : Safe Z [("java/lang/String", 7)] s.vm h0 b377 := Safe.new (Nat.le_of_eq g377.symm)
    have CR379 : CHr Z [("java/lang/String", 7)] s.vm h0 s.vm h377 := CR0.trans (CHr.ext E377 CR0.1)
    have sf380 : Safe Z [("java/lang/String", 7)] s.vm h377 b377 := Safe.ext E377 CR0.1 sf378
    have D377_value : Fld Z h377 b377 "java/lang/String" "value" "[B" .null := D377 (Or.inr (hw _ (List.mem_of_getElem? (i := 23) rfl))) (ty := (.array .byte)) (by decide)
    have D377_coder : Fld Z h377 b377 "java/lang/String" "coder" "B" (.int (0 : Int32)) := D377 (Or.inr (hw _ (List.mem_of_getElem? (i := 24) rfl))) (ty := .byte) (by decide)
    obtain ⟨T381, h381, ky381, X381, e381, E381, A381, st381⟩ := newP X377 hx hZ0 (hw _ (List.mem_of_getElem? (i := 4) rfl)) e377 (g := (mkF m 64 #[.val (.int (3 : Int32)), .val (.int c0), .val (.int c1), .val (.int c2)] [(.int (3 : Int32)), (.ref b377), (.ref b377)])) rfl (hb hby d_method_4_code_64) rfl ((by decide) : ¬ ((3 : Int32) < (0 : Int32))) (cap := 3) ((by decide) : (3 : Int32).toNatClampNeg ≤ 3) (by decide) (by decide) (by decide)
    obtain ⟨b381, g381⟩ : ∃ z, z = h377.size := ⟨_, rfl⟩
    rw [← g381] at A381 st381
    have sf382 : Safe Z [("java/lang/String", 7)] s.vm h377 b381 := Safe.new (Nat.le_of_eq g381.symm)
    have CR383 : CHr Z [("java/lang/String", 7)] s.vm h0 s.vm h381 := CR379.trans (CHr.ext E381 CR379.1)
    have sf384 : Safe Z [("java/lang/String", 7)] s.vm h381 b377 := Safe.ext E381 CR379.1 sf380
    have sf385 : Safe Z [("java/lang/String", 7)] s.vm h381 b381 := Safe.ext E381 CR379.1 sf382
    have V381 : Arv Z h381 b381 ky381 .char (3 : Int32) [] (.int (0 : Int32)) := Arv.new A381 (by decide)
    have U381 : Arv Z h381 b381 ky381 .char (3 : Int32) [(.int (0 : Int32)), (.int (0 : Int32)), (.int (0 : Int32))] (.int (0 : Int32)) := V381.pad (pad_rep [] (.int (0 : Int32)) 3)
    have ge387 : n0 ≤ b381 := Nat.le_trans Z0 (Nat.le_trans E377.1 (Nat.le_of_eq g381.symm))
    obtain ⟨cl386, Ar386, qq386, S386, M386, Hh386, U386⟩ := id U381
    obtain ⟨T386, h386, X386, e386, W386, st386⟩ := stC X381 hx hZ0 e381 Ar386 (j := (0 : Int32)) (inb_of S386 ⟨(by decide : ¬ ((0 : Int32) < (0 : Int32))), (by decide : (0 : Int32) < (3 : Int32))⟩) (g := (mkF m 69 #[.val (.int (3 : Int32)), .val (.int c0), .val (.int c1), .val (.int c2)] [(.int c0), (.int (0 : Int32)), (.ref b381), (.ref b381), (.ref b377), (.ref b377)])) rfl rfl (hb hby d_method_4_code_69)
    have N386 := Fr.snoc X386 N0 ge387
    have CR388 : CHr Z [("java/lang/String", 7)] s.vm h0 s.vm h386 := CR383.trans (CHr.wr W386 sf385 CR383.1)
    have sf389 : Safe Z [("java/lang/String", 7)] s.vm h386 b377 := Safe.wr W386 sf385 CR383.1 sf384
    have sf390 : Safe Z [("java/lang/String", 7)] s.vm h386 b381 := Safe.wr W386 sf385 CR383.1 sf385
    have V386 : Arv Z h386 b381 ky381 .char (3 : Int32) [(.int (nar .char c0)), (.int (0 : Int32)), (.int (0 : Int32))] (.int (0 : Int32)) := Arv.set Ar386 qq386 S386 M386 Hh386 U386 (fits_nar_char _) W386 0 rfl (Nat.le_of_ble_eq_true rfl)
    have VR386 : Arv Z h386 b381 ky381 .char (3 : Int32) [(.int c0), (.int (0 : Int32)), (.int (0 : Int32))] (.int (0 : Int32)) := by have q := V386; rw [hl0.1] at q; exact q
    obtain ⟨cl391, Ar391, qq391, S391, M391, Hh391, U391⟩ := id VR386
    obtain ⟨T391, h391, X391, e391, W391, st391⟩ := stC X386 hx hZ0 e386 Ar391 (j := (1 : Int32)) (inb_of S391 ⟨(by decide : ¬ ((1 : Int32) < (0 : Int32))), (by decide : (1 : Int32) < (3 : Int32))⟩) (g := (mkF m 73 #[.val (.int (3 : Int32)), .val (.int c0), .val (.int c1), .val (.int c2)] [(.int c1), (.int (1 : Int32)), (.ref b381), (.ref b381), (.ref b377), (.ref b377)])) rfl rfl (hb hby d_method_4_code_73)
    have N391 := Fr.snoc X391 N386 ge387
    have CR392 : CHr Z [("java/lang/String", 7)] s.vm h0 s.vm h391 := CR388.trans (CHr.wr W391 sf390 CR388.1)
    have sf393 : Safe Z [("java/lang/String", 7)] s.vm h391 b377 := Safe.wr W391 sf390 CR388.1 sf389
    have sf394 : Safe Z [("java/lang/String", 7)] s.vm h391 b381 := Safe.wr W391 sf390 CR388.1 sf390
    have V391 : Arv Z h391 b381 ky381 .char (3 : Int32) [(.int c0), (.int (nar .char c1)), (.int (0 : Int32))] (.int (0 : Int32)) := Arv.set Ar391 qq391 S391 M391 Hh391 U391 (fits_nar_char _) W391 1 rfl (Nat.le_of_ble_eq_true rfl)
    have VR391 : Arv Z h391 b381 ky381 .char (3 : Int32) [(.int c0), (.int c1), (.int (0 : Int32))] (.int (0 : Int32)) := by have q := V391; rw [hl1.1] at q; exact q
    obtain ⟨cl395, Ar395, qq395, S395, M395, Hh395, U395⟩ := id VR391
    obtain ⟨T395, h395, X395, e395, W395, st395⟩ := stC X391 hx hZ0 e391 Ar395 (j := (2 : Int32)) (inb_of S395 ⟨(by decide : ¬ ((2 : Int32) < (0 : Int32))), (by decide : (2 : Int32) < (3 : Int32))⟩) (g := (mkF m 77 #[.val (.int (3 : Int32)), .val (.int c0), .val (.int c1), .val (.int c2)] [(.int c2), (.int (2 : Int32)), (.ref b381), (.ref b381), (.ref b377), (.ref b377)])) rfl rfl (hb hby d_method_4_code_77)
    have N395 := Fr.snoc X395 N391 ge387
    have CR396 : CHr Z [("java/lang/String", 7)] s.vm h0 s.vm h395 := CR392.trans (CHr.wr W395 sf394 CR392.1)
    have sf397 : Safe Z [("java/lang/String", 7)] s.vm h395 b377 := Safe.wr W395 sf394 CR392.1 sf393
    have sf398 : Safe Z [("java/lang/String", 7)] s.vm h395 b381 := Safe.wr W395 sf394 CR392.1 sf394
    have V395 : Arv Z h395 b381 ky381 .char (3 : Int32) [(.int c0), (.int c1), (.int (nar .char c2))] (.int (0 : Int32)) := Arv.set Ar395 qq395 S395 M395 Hh395 U395 (fits_nar_char _) W395 2 rfl (Nat.le_of_ble_eq_true rfl)
    have VR395 : Arv Z h395 b381 ky381 .char (3 : Int32) [(.int c0), (.int c1), (.int c2)] (.int (0 : Int32)) := by have q := V395; rw [hl2.1] at q; exact q
    have c400 : Old Z n0 h395 := (((((q2.ext E377).ext E381).wr W386 ge387).wr W391 ge387).wr W395 ge387)
    have hp401 : ∀ c ∈ ([c0, c1, c2] : List Int32), ¬ c < 0 ∧ ¬ (255 : Int32) < c := by
      intro c hc
      simp only [List.mem_cons, List.not_mem_nil, or_false] at hc
      rcases hc with rfl | rfl | rfl
      · exact hl0.2
      · exact hl1.2
      · exact hl2.2
    have c402 : Exa Z h395 b377 "java/lang/String" := ((((A377.ext E381).wr W386).wr W391).wr W395)
    have ne403 : b377 ≠ b381 := Nat.ne_of_lt (Nat.lt_of_lt_of_le D377_value.lt (Nat.le_of_eq g381.symm))
    have c404 : Fld Z h395 b377 "java/lang/String" "value" "[B" .null := ((((D377_value.ext E381).other W386 (Or.inl ne403)).other W391 (Or.inl ne403)).other W395 (Or.inl ne403))
    have c405 : Fld Z h395 b377 "java/lang/String" "coder" "B" (.int (0 : Int32)) := ((((D377_coder.ext E381).other W386 (Or.inl ne403)).other W391 (Or.inl ne403)).other W395 (Or.inl ne403))
    have ge406 : n0 ≤ b377 := Nat.le_trans Z0 (Nat.le_trans (Nat.le_refl _) (Nat.le_of_eq g377.symm))
    obtain ⟨_, _, ⟨T399, L399, k399, n399⟩, -, X399, ⟨Lc399, hQ399, l399, y399, z399⟩, st399⟩ := X395.specialBack hx (y := (⟨"java/lang/String", "<init>", "([C)V"⟩ : MethodName)) rfl hown0 (mvT hZ0 (hw _ (List.mem_of_getElem? (i := 11) rfl))) (mvT hZ0 (hw _ (List.mem_of_getElem? (i := 12) rfl))) (mvT hZ0 (hw _ (List.mem_of_getElem? (i := 13) rfl))) (by decide) (StrChars.Road.backV (W := 1) hZ0 (own_hw_backV hw) (kI := 4) (hw _ (List.mem_of_getElem? (i := 9) rfl)) (cs := ([c0, c1, c2] : List Int32)) (bs := (([c0, c1, c2] : List Int32)).map (fun c => c.toInt8.toInt32)) (n := 3) ge406 (Nat.le_trans Z0 (Nat.le_trans (Nat.le_trans (Nat.le_trans (Nat.le_trans E377.1 E381.1) (Keep.of_wr W386).1) (Keep.of_wr W391).1) (Keep.of_wr W395).1)) c402 c404 c405 VR395 (q0.ext c400.2) hCS rfl rfl (by decide) (by decide) hp401 rfl (by decide) (by decide)) (g := (mkF m 78 #[.val (.int (3 : Int32)), .val (.int c0), .val (.int c1), .val (.int c2)] [(.ref b381), (.ref b377), (.ref b377)])) rfl (by rw [hml]; rfl) (Steps.refl _) (a := b377) (argsL := [(.ref b381)]) (rest := [(.ref b377)]) (lenOf pd_17 rfl) rfl (by show 2 * 0 + _ ≤ _; exact Nat.le_of_eq rfl) (hb hby d_method_4_code_78) (fun _ _ => ⟨rfl, e395, (by decide : 2 + 1 ≤ _), (by decide : 7 + 3 ≤ _)⟩)
    dsimp only [Pt.U, Pt.locs, Pt.cells, Pt.slots] at X399 l399 y399 z399 st399 hQ399
    subst l399 y399 z399
    obtain ⟨rfl, Nq399, K399, fE399, fC399, t399, kb399, gt399, sz399, nt399, fV399, fA399⟩ := hQ399
    have N399 := Fr.app N395 Nq399
    have sf407 : Safe Z [("java/lang/String", 7)] s.vm h395 t399 := Safe.new sz399
    have CR408 : CHr Z [("java/lang/String", 7)] s.vm h0 s.vm T399.heap := CR396.trans (CHr.keep K399 (sfS sf397 sf0) CR396.1)
    have sf409 : Safe Z [("java/lang/String", 7)] s.vm T399.heap b377 := Safe.keep K399 (sfS sf397 sf0) CR396.1 sf397
    have sf410 : Safe Z [("java/lang/String", 7)] s.vm T399.heap b381 := Safe.keep K399 (sfS sf397 sf0) CR396.1 sf398
    have sf411 : Safe Z [("java/lang/String", 7)] s.vm T399.heap t399 := Safe.keep K399 (sfS sf397 sf0) CR396.1 sf407
    have hcd399 : StrChars.Road.CodA ([c0, c1, c2] : List Int32) 0 (3 : Int32) (((([c0, c1, c2] : List Int32)).map (fun c => c.toInt8.toInt32)).map Value.int) := StrChars.Road.codOf (n := 3) rfl (fun c hc => (hp401 c hc).2)
    obtain ⟨fs, hr, hrun, hended, hEnd⟩ := X399.leaveW hS0 (Nat.le_trans hk0 (Nat.le_trans (Nat.le_trans (Nat.le_trans (Nat.le_trans (Nat.le_trans E377.1 E381.1) (Keep.of_wr W386).1) (Keep.of_wr W391).1) (Keep.of_wr W395).1) K399.1)) (v := some (.ref b377)) (fun h => by rw [Bd.returns] at h; cases h)
    refine ⟨_, _, pre0 _ ?_, hrun, hended, _, _, rfl, ?_, (by rw [hh]; show CHr Z [("java/lang/String", 7)] s.vm h0 T399.vm T399.heap; exact CR408.trans (CHv.at X399 hZ0 (own_EW hw) CR408.1)), hEnd.1, hEnd.2.1, hEnd.2.2.1, hEnd.2.2.2.mono (by decide) (by decide)⟩
    · refine XS.iloadN X0.here hx rfl (hb hby d_method_4_code_0) rfl ?_
      show Steps p.tables e below (s₁.setTop (mkF m 1 #[.val (.int (3 : Int32)), .val (.int c0), .val (.int c1), .val (.int c2)] [(.int (3 : Int32))])) _
      refine XS.ifYes X0.here hx rfl (pc0 := 1) (pc' := 15) rfl (hb hby d_method_4_code_1) rfl ((if0 _ _).trans (feq ((by decide) : ¬ ((3 : Int32) = (0 : Int32)))).2) (by decide) (by decide) ?_
      show Steps p.tables e below (s₁.setTop (mkF m 15 #[.val (.int (3 : Int32)), .val (.int c0), .val (.int c1), .val (.int c2)] [])) _
      refine XS.iloadN X0.here hx rfl (hb hby d_method_4_code_15) rfl ?_
      show Steps p.tables e below (s₁.setTop (mkF m 16 #[.val (.int (3 : Int32)), .val (.int c0), .val (.int c1), .val (.int c2)] [(.int (3 : Int32))])) _
      refine XS.iconst X0.here hx rfl (hb hby d_method_4_code_16) ?_
      show Steps p.tables e below (s₁.setTop (mkF m 17 #[.val (.int (3 : Int32)), .val (.int c0), .val (.int c1), .val (.int c2)] [(.int (1 : Int32)), (.int (3 : Int32))])) _
      refine XS.icmpYes X0.here hx rfl (pc0 := 17) (pc' := 35) rfl (hb hby d_method_4_code_17) rfl (feq ((by decide) : ¬ ((3 : Int32) = (1 : Int32)))).2 (by decide) (by decide) ?_
      show Steps p.tables e below (s₁.setTop (mkF m 35 #[.val (.int (3 : Int32)), .val (.int c0), .val (.int c1), .val (.int c2)] [])) _
      refine XS.iloadN X0.here hx rfl (hb hby d_method_4_code_35) rfl ?_
      show Steps p.tables e below (s₁.setTop (mkF m 36 #[.val (.int (3 : Int32)), .val (.int c0), .val (.int c1), .val (.int c2)] [(.int (3 : Int32))])) _
      refine XS.iconst X0.here hx rfl (hb hby d_method_4_code_36) ?_
      show Steps p.tables e below (s₁.setTop (mkF m 37 #[.val (.int (3 : Int32)), .val (.int c0), .val (.int c1), .val (.int c2)] [(.int (2 : Int32)), (.int (3 : Int32))])) _
      refine XS.icmpYes X0.here hx rfl (pc0 := 37) (pc' := 59) rfl (hb hby d_method_4_code_37) rfl (feq ((by decide) : ¬ ((3 : Int32) = (2 : Int32)))).2 (by decide) (by decide) ?_
      show Steps p.tables e below (s₁.setTop (mkF m 59 #[.val (.int (3 : Int32)), .val (.int c0), .val (.int c1), .val (.int c2)] [])) _
      refine st377 _ ?_
      show Steps p.tables e below (T377.setTop (mkF m 62 #[.val (.int (3 : Int32)), .val (.int c0), .val (.int c1), .val (.int c2)] [(.ref b377)])) _
      refine XS.dup X377.here hx rfl (hb hby d_method_4_code_62) rfl rfl ?_
      show Steps p.tables e below (T377.setTop (mkF m 63 #[.val (.int (3 : Int32)), .val (.int c0), .val (.int c1), .val (.int c2)] [(.ref b377), (.ref b377)])) _
      refine XS.iconst X377.here hx rfl (hb hby d_method_4_code_63) ?_
      show Steps p.tables e below (T377.setTop (mkF m 64 #[.val (.int (3 : Int32)), .val (.int c0), .val (.int c1), .val (.int c2)] [(.int (3 : Int32)), (.ref b377), (.ref b377)])) _
      refine st381 _ ?_
      show Steps p.tables e below (T381.setTop (mkF m 66 #[.val (.int (3 : Int32)), .val (.int c0), .val (.int c1), .val (.int c2)] [(.ref b381), (.ref b377), (.ref b377)])) _
      refine XS.dup X381.here hx rfl (hb hby d_method_4_code_66) rfl rfl ?_
      show Steps p.tables e below (T381.setTop (mkF m 67 #[.val (.int (3 : Int32)), .val (.int c0), .val (.int c1), .val (.int c2)] [(.ref b381), (.ref b381), (.ref b377), (.ref b377)])) _
      refine XS.iconst X381.here hx rfl (hb hby d_method_4_code_67) ?_
      show Steps p.tables e below (T381.setTop (mkF m 68 #[.val (.int (3 : Int32)), .val (.int c0), .val (.int c1), .val (.int c2)] [(.int (0 : Int32)), (.ref b381), (.ref b381), (.ref b377), (.ref b377)])) _
      refine XS.iloadN X381.here hx rfl (hb hby d_method_4_code_68) rfl ?_
      show Steps p.tables e below (T381.setTop (mkF m 69 #[.val (.int (3 : Int32)), .val (.int c0), .val (.int c1), .val (.int c2)] [(.int c0), (.int (0 : Int32)), (.ref b381), (.ref b381), (.ref b377), (.ref b377)])) _
      refine st386 _ ?_
      show Steps p.tables e below (T386.setTop (mkF m 70 #[.val (.int (3 : Int32)), .val (.int c0), .val (.int c1), .val (.int c2)] [(.ref b381), (.ref b377), (.ref b377)])) _
      refine XS.dup X386.here hx rfl (hb hby d_method_4_code_70) rfl rfl ?_
      show Steps p.tables e below (T386.setTop (mkF m 71 #[.val (.int (3 : Int32)), .val (.int c0), .val (.int c1), .val (.int c2)] [(.ref b381), (.ref b381), (.ref b377), (.ref b377)])) _
      refine XS.iconst X386.here hx rfl (hb hby d_method_4_code_71) ?_
      show Steps p.tables e below (T386.setTop (mkF m 72 #[.val (.int (3 : Int32)), .val (.int c0), .val (.int c1), .val (.int c2)] [(.int (1 : Int32)), (.ref b381), (.ref b381), (.ref b377), (.ref b377)])) _
      refine XS.iloadN X386.here hx rfl (hb hby d_method_4_code_72) rfl ?_
      show Steps p.tables e below (T386.setTop (mkF m 73 #[.val (.int (3 : Int32)), .val (.int c0), .val (.int c1), .val (.int c2)] [(.int c1), (.int (1 : Int32)), (.ref b381), (.ref b381), (.ref b377), (.ref b377)])) _
      refine st391 _ ?_
      show Steps p.tables e below (T391.setTop (mkF m 74 #[.val (.int (3 : Int32)), .val (.int c0), .val (.int c1), .val (.int c2)] [(.ref b381), (.ref b377), (.ref b377)])) _
      refine XS.dup X391.here hx rfl (hb hby d_method_4_code_74) rfl rfl ?_
      show Steps p.tables e below (T391.setTop (mkF m 75 #[.val (.int (3 : Int32)), .val (.int c0), .val (.int c1), .val (.int c2)] [(.ref b381), (.ref b381), (.ref b377), (.ref b377)])) _
      refine XS.iconst X391.here hx rfl (hb hby d_method_4_code_75) ?_
      show Steps p.tables e below (T391.setTop (mkF m 76 #[.val (.int (3 : Int32)), .val (.int c0), .val (.int c1), .val (.int c2)] [(.int (2 : Int32)), (.ref b381), (.ref b381), (.ref b377), (.ref b377)])) _
      refine XS.iloadN X391.here hx rfl (hb hby d_method_4_code_76) rfl ?_
      show Steps p.tables e below (T391.setTop (mkF m 77 #[.val (.int (3 : Int32)), .val (.int c0), .val (.int c1), .val (.int c2)] [(.int c2), (.int (2 : Int32)), (.ref b381), (.ref b381), (.ref b377), (.ref b377)])) _
      refine st395 _ ?_
      show Steps p.tables e below (T395.setTop (mkF m 78 #[.val (.int (3 : Int32)), .val (.int c0), .val (.int c1), .val (.int c2)] [(.ref b381), (.ref b377), (.ref b377)])) _
      refine st399.trans ?_
      show Steps p.tables e below (T399.setTop (mkF m 81 #[.val (.int (3 : Int32)), .val (.int c0), .val (.int c1), .val (.int c2)] [(.ref b377)])) _
      jvm_step X399.here [X399.here.top, hx, (hb hby d_method_4_code_81), X399.method', Bd.returns, Value.isRef, FieldType.isReference]
      first | (intro acts; rw [hr _ acts rfl rfl rfl]) | rw [hr _ _ rfl rfl rfl]
      exact Steps.refl _
    · show Q_str Z 3 c0 c1 c2 G h0 n0 _ T399.heap _
      exact ⟨b377, t399, kb399, (3 : Int32), (((([c0, c1, c2] : List Int32)).map (fun c => c.toInt8.toInt32)).map Value.int), rfl, N399, (((((((Keep.refl h0 ([] : List Addr)).ext E377).ext E381).wr W386 (Or.inr (Nat.le_trans E377.1 (Nat.le_of_eq g381.symm)))).wr W391 (Or.inr (Nat.le_trans E377.1 (Nat.le_of_eq g381.symm)))).wr W395 (Or.inr (Nat.le_trans E377.1 (Nat.le_of_eq g381.symm)))).trans K399 (allS (Or.inr (Nat.le_trans (Nat.le_refl _) (Nat.le_of_eq g377.symm))) all0)), (Nat.le_trans (Nat.le_refl _) (Nat.le_of_eq g377.symm)), fE399, fV399, fC399, fA399, (by exact hcd399)⟩
theorem d_method_3_code_0 : decode method_3_code 0 = .ok (.iload_n 0, 1) := by decide +kernel
theorem d_method_3_code_1 : decode method_3_code 1 = .ok (.i2c, 1) := by decide +kernel
theorem d_method_3_code_2 : decode method_3_code 2 = .ok (.istore_n 1, 1) := by decide +kernel
theorem d_method_3_code_3 : decode method_3_code 3 = .ok (.iload_n 1, 1) := by decide +kernel
theorem d_method_3_code_4 : decode method_3_code 4 = .ok (.bipush 123, 2) := by decide +kernel
theorem d_method_3_code_6 : decode method_3_code 6 = .ok (.if_icmp .ne 6, 3) := by decide +kernel
theorem d_method_3_code_9 : decode method_3_code 9 = .ok (.bipush 122, 2) := by decide +kernel
theorem d_method_3_code_11 : decode method_3_code 11 = .ok (.ireturn, 1) := by decide +kernel
theorem d_method_3_code_12 : decode method_3_code 12 = .ok (.iload_n 1, 1) := by decide +kernel
theorem d_method_3_code_13 : decode method_3_code 13 = .ok (.ireturn, 1) := by decide +kernel
theorem ef_14 (m : MethodId) (x0 : Int32) : entryFrame m #[(.int x0)] 2 = mkF m 0 #[.val (.int x0), .unset] [] := by first | (simp [entryFrame, mkF, argsToLocals, Value.category]; done) | rfl
def Q_pfx (Z : State) (xq : Int32) (h0 : Heap) (n0 : Nat) (v : Option Value) (h : Heap) (L : List Loc) : Prop := ∃ (rv : Int32), (v = some (.int rv)) ∧ (Fr n0 L) ∧ (h = h0) ∧ (own_L rv ∧ ¬ rv = (123 : Int32))
set_option maxRecDepth 65536 in
set_option maxHeartbeats 40000000 in
theorem rm_pfx (l : Launch) (Z : State) (a0 : Array Value) (hw : ∀ d ∈ tables_1, d.before a0 Z = true) (ws : List Jvm.Cond) (xq : Int32) (h0 : Heap) (n0 : Nat) (Z0 : n0 ≤ h0.size) :
    MetFree l (⟨"com/example/holdfast/holdfast/redis/LockKeysLockKeyPinLaw", "prefixChar", "(I)C"⟩ : MethodName) (head1 (Jvm.Cond.code (⟨"com/example/holdfast/holdfast/redis/LockKeysLockKeyPinLaw", "prefixChar", "(I)C"⟩ : MethodName) method_3_code 2 (some .char) :: ws) ({ frames := 0, cells := 0, slots := 0, locals := 0 } : Room)) (fun a₁ U₁ => a₁ = #[(.int (xq &&& (255 : Int32)))] ∧ Z.Warmed39 U₁.vm ∧ U₁.heap = h0) (fun _ _ _ _ _ => True) (fun _ U₁ o₁ U₂ => ∃ v₁ L₁, o₁ = .returned v₁ ∧ Q_pfx Z xq h0 n0 v₁ U₂.heap L₁ ∧ FrameEnd U₁ o₁ U₂ L₁ ({ frames := 0, cells := 0, slots := 0, locals := 0 } : Room).cells ({ frames := 0, cells := 0, slots := 0, locals := 0 } : Room).slots) := by
  refine MetFree.of_bodySF (plainFor_of_name pn_5) hisR ?_
  intro p e s m args below meth c s₁ Bd hml0 hP hK
  obtain ⟨rfl, hZ, hh⟩ := hP
  have hx := Bd.exec
  have hby := Bd.bytes
  have hml : c.maxLocals = 2 := hml0
  have hown : s.vm.findClass "com/example/holdfast/holdfast/redis/LockKeysLockKeyPinLaw" = some m.cls := findClass_of_methodNamed Bd.named
  have hnm := (name_of_methodNamed Bd.named Bd.method).1
  have X0 : Stand p l e ({ frames := 0, cells := 0, slots := 0, locals := 0 } : Room) s m #[(.int (xq &&& (255 : Int32)))] below meth c s₁ [] 0 0 := Stand.of_body Bd
  have e0 : s₁.heap = h0 := by rw [← hh, Bd.state]; rfl
  have N0 := Fr.nil n0
  have pre0 : ∀ t, Steps p.tables e below (s₁.setTop (mkF m 0 #[.val (.int (xq &&& (255 : Int32))), .unset] [])) t → Steps p.tables e below (s₁.setTop (entryFrame m #[(.int (xq &&& (255 : Int32)))] 2)) t := fun t k => castTop (ef_14 m (xq &&& (255 : Int32))) k
  have pre301 : ∀ t, Steps p.tables e below (s₁.setTop (mkF m 3 #[.val (.int (xq &&& (255 : Int32))), .val (.int ((xq &&& (255 : Int32)).toUInt32.toUInt16.toUInt32.toInt32))] [])) t → Steps p.tables e below (s₁.setTop (entryFrame m #[(.int (xq &&& (255 : Int32)))] 2)) t := fun t kk => pre0 t (by
    refine XS.iloadN X0.here hx rfl (hb hby d_method_3_code_0) rfl ?_
    show Steps p.tables e below (s₁.setTop (mkF m 1 #[.val (.int (xq &&& (255 : Int32))), .unset] [(.int (xq &&& (255 : Int32)))])) _
    refine XS.i2c X0.here hx rfl (hb hby d_method_3_code_1) rfl ?_
    show Steps p.tables e below (s₁.setTop (mkF m 2 #[.val (.int (xq &&& (255 : Int32))), .unset] [(.int ((xq &&& (255 : Int32)).toUInt32.toUInt16.toUInt32.toInt32))])) _
    refine XS.istoreN X0.here hx rfl (hb hby d_method_3_code_2) rfl (l' := #[.val (.int (xq &&& (255 : Int32))), .val (.int ((xq &&& (255 : Int32)).toUInt32.toUInt16.toUInt32.toInt32))]) rfl ?_
    show Steps p.tables e below (s₁.setTop (mkF m 3 #[.val (.int (xq &&& (255 : Int32))), .val (.int ((xq &&& (255 : Int32)).toUInt32.toUInt16.toUInt32.toInt32))] [])) _
    exact kk)
  obtain ⟨ch, h_ch⟩ : ∃ z, z = ((xq &&& (255 : Int32)).toUInt32.toUInt16.toUInt32.toInt32) := ⟨_, rfl⟩
  rw [← h_ch] at pre301
  have hch : own_L ch := by rw [h_ch]; exact own_lat8 _
  have pre302 : ∀ t, Steps p.tables e below (s₁.setTop (mkF m 6 #[.val (.int (xq &&& (255 : Int32))), .val (.int ch)] [(.int (123 : Int32)), (.int ch)])) t → Steps p.tables e below (s₁.setTop (entryFrame m #[(.int (xq &&& (255 : Int32)))] 2)) t := fun t kk => pre301 t (by
    refine XS.iloadN X0.here hx rfl (hb hby d_method_3_code_3) rfl ?_
    show Steps p.tables e below (s₁.setTop (mkF m 4 #[.val (.int (xq &&& (255 : Int32))), .val (.int ch)] [(.int ch)])) _
    refine XS.bipush X0.here hx rfl (hb hby d_method_3_code_4) ?_
    show Steps p.tables e below (s₁.setTop (mkF m 6 #[.val (.int (xq &&& (255 : Int32))), .val (.int ch)] [(.int (123 : Int32)), (.int ch)])) _
    exact kk)
  by_cases h123 : ch = (123 : Int32)
  · obtain ⟨fs, hr, hrun, hended, hW, hsame⟩ := X0.leave (v := some (.int (122 : Int32))) (fun h => by rw [Bd.returns] at h; cases h)
    refine ⟨_, _, pre302 _ ?_, hrun, hended, _, _, rfl, ?_, ⟨_, rfl⟩, hW, hsame.mono (by decide) (by decide)⟩
    · refine XS.icmpNo X0.here hx rfl (hb hby d_method_3_code_6) rfl (teq (h123 : ch = (123 : Int32))).2 ?_
      show Steps p.tables e below (s₁.setTop (mkF m 9 #[.val (.int (xq &&& (255 : Int32))), .val (.int ch)] [])) _
      refine XS.bipush X0.here hx rfl (hb hby d_method_3_code_9) ?_
      show Steps p.tables e below (s₁.setTop (mkF m 11 #[.val (.int (xq &&& (255 : Int32))), .val (.int ch)] [(.int (122 : Int32))])) _
      exact retN X0 hx (t := .char) Bd.returns (by simp) (hb hby d_method_3_code_11) hr
    · show Q_pfx Z xq h0 n0 _ s₁.heap _
      rw [e0]
      exact ⟨(122 : Int32), rfl, N0, rfl, ⟨own_Lof (by decide), by decide⟩⟩
  · obtain ⟨fs, hr, hrun, hended, hW, hsame⟩ := X0.leave (v := some (.int ch)) (fun h => by rw [Bd.returns] at h; cases h)
    refine ⟨_, _, pre302 _ ?_, hrun, hended, _, _, rfl, ?_, ⟨_, rfl⟩, hW, hsame.mono (by decide) (by decide)⟩
    · refine XS.icmpYes X0.here hx rfl (pc0 := 6) (pc' := 12) rfl (hb hby d_method_3_code_6) rfl (feq (h123 : ¬ (ch = (123 : Int32)))).2 (by decide) (by decide) ?_
      show Steps p.tables e below (s₁.setTop (mkF m 12 #[.val (.int (xq &&& (255 : Int32))), .val (.int ch)] [])) _
      refine XS.iloadN X0.here hx rfl (hb hby d_method_3_code_12) rfl ?_
      show Steps p.tables e below (s₁.setTop (mkF m 13 #[.val (.int (xq &&& (255 : Int32))), .val (.int ch)] [(.int ch)])) _
      exact retN X0 hx (t := .char) Bd.returns (by simp) (hb hby d_method_3_code_13) (by rw [hch.1]; exact hr)
    · show Q_pfx Z xq h0 n0 _ s₁.heap _
      rw [e0]
      exact ⟨ch, rfl, N0, rfl, ⟨hch, h123⟩⟩
theorem d_jdk_43_method_4_code_0 : decode jdk_43_method_4_code 0 = .ok (.iload_n 0, 1) := by decide +kernel
theorem d_jdk_43_method_4_code_1 : decode jdk_43_method_4_code 1 = .ok (.ifCond .lt 14, 3) := by decide +kernel
theorem d_jdk_43_method_4_code_4 : decode jdk_43_method_4_code 4 = .ok (.iload_n 0, 1) := by decide +kernel
theorem d_jdk_43_method_4_code_5 : decode jdk_43_method_4_code 5 = .ok (.sipush 255, 3) := by decide +kernel
theorem d_jdk_43_method_4_code_8 : decode jdk_43_method_4_code 8 = .ok (.if_icmp .gt 7, 3) := by decide +kernel
theorem d_jdk_43_method_4_code_11 : decode jdk_43_method_4_code 11 = .ok (.iconst 1, 1) := by decide +kernel
theorem d_jdk_43_method_4_code_12 : decode jdk_43_method_4_code 12 = .ok (.goto 4, 3) := by decide +kernel
theorem d_jdk_43_method_4_code_16 : decode jdk_43_method_4_code 16 = .ok (.ireturn, 1) := by decide +kernel
def Q_canEI (Z : State)  (h0 : Heap) (n0 : Nat) (v : Option Value) (h : Heap) (L : List Loc) : Prop := (v = some (.int (1 : Int32))) ∧ (Fr n0 L) ∧ (h = h0)
set_option maxRecDepth 65536 in
set_option maxHeartbeats 40000000 in
theorem rm_canEI (l : Launch) (Z : State) (a0 : Array Value) (hw : ∀ d ∈ tables_1, d.before a0 Z = true) (ws : List Jvm.Cond) (h0 : Heap) (n0 : Nat) (Z0 : n0 ≤ h0.size) :
    MetFree l (⟨"java/lang/StringLatin1", "canEncode", "(I)Z"⟩ : MethodName) (head1 (Jvm.Cond.code (⟨"java/lang/StringLatin1", "canEncode", "(I)Z"⟩ : MethodName) jdk_43_method_4_code 1 (some .boolean) :: ws) ({ frames := 0, cells := 0, slots := 0, locals := 0 } : Room)) (fun a₁ U₁ => a₁ = #[(.int (123 : Int32))] ∧ Z.Warmed39 U₁.vm ∧ U₁.heap = h0) (fun _ _ _ _ _ => True) (fun _ U₁ o₁ U₂ => ∃ v₁ L₁, o₁ = .returned v₁ ∧ Q_canEI Z  h0 n0 v₁ U₂.heap L₁ ∧ FrameEnd U₁ o₁ U₂ L₁ ({ frames := 0, cells := 0, slots := 0, locals := 0 } : Room).cells ({ frames := 0, cells := 0, slots := 0, locals := 0 } : Room).slots) := by
  refine MetFree.of_bodySF (plainFor_of_name pn_0) hisR ?_
  intro p e s m args below meth c s₁ Bd hml0 hP hK
  obtain ⟨rfl, hZ, hh⟩ := hP
  have hx := Bd.exec
  have hby := Bd.bytes
  have hml : c.maxLocals = 1 := hml0
  have hown : s.vm.findClass "java/lang/StringLatin1" = some m.cls := findClass_of_methodNamed Bd.named
  have hnm := (name_of_methodNamed Bd.named Bd.method).1
  have X0 : Stand p l e ({ frames := 0, cells := 0, slots := 0, locals := 0 } : Room) s m #[(.int (123 : Int32))] below meth c s₁ [] 0 0 := Stand.of_body Bd
  have e0 : s₁.heap = h0 := by rw [← hh, Bd.state]; rfl
  have N0 := Fr.nil n0
  have pre0 : ∀ t, Steps p.tables e below (s₁.setTop (mkF m 0 #[.val (.int (123 : Int32))] [])) t → Steps p.tables e below (s₁.setTop (entryFrame m #[(.int (123 : Int32))] 1)) t := fun t k => castTop (ef_0 m (123 : Int32)) k
  obtain ⟨fs, hr, hrun, hended, hW, hsame⟩ := X0.leave (v := some (.int (1 : Int32))) (fun h => by rw [Bd.returns] at h; cases h)
  refine ⟨_, _, pre0 _ ?_, hrun, hended, _, _, rfl, ?_, ⟨_, rfl⟩, hW, hsame.mono (by decide) (by decide)⟩
  · refine XS.iloadN X0.here hx rfl (hb hby d_jdk_43_method_4_code_0) rfl ?_
    show Steps p.tables e below (s₁.setTop (mkF m 1 #[.val (.int (123 : Int32))] [(.int (123 : Int32))])) _
    refine XS.ifNo X0.here hx rfl (hb hby d_jdk_43_method_4_code_1) rfl ((if0 _ _).trans (flt ((by decide) : ¬ ((123 : Int32) < (0 : Int32)))).1) ?_
    show Steps p.tables e below (s₁.setTop (mkF m 4 #[.val (.int (123 : Int32))] [])) _
    refine XS.iloadN X0.here hx rfl (hb hby d_jdk_43_method_4_code_4) rfl ?_
    show Steps p.tables e below (s₁.setTop (mkF m 5 #[.val (.int (123 : Int32))] [(.int (123 : Int32))])) _
    refine XS.sipush X0.here hx rfl (hb hby d_jdk_43_method_4_code_5) ?_
    show Steps p.tables e below (s₁.setTop (mkF m 8 #[.val (.int (123 : Int32))] [(.int (255 : Int32)), (.int (123 : Int32))])) _
    refine XS.icmpNo X0.here hx rfl (hb hby d_jdk_43_method_4_code_8) rfl (flt ((by decide) : ¬ ((255 : Int32) < (123 : Int32)))).2.2.1 ?_
    show Steps p.tables e below (s₁.setTop (mkF m 11 #[.val (.int (123 : Int32))] [])) _
    refine XS.iconst X0.here hx rfl (hb hby d_jdk_43_method_4_code_11) ?_
    show Steps p.tables e below (s₁.setTop (mkF m 12 #[.val (.int (123 : Int32))] [(.int (1 : Int32))])) _
    refine XS.goto X0.here hx rfl (pc0 := 12) (pc' := 16) rfl (hb hby d_jdk_43_method_4_code_12) (by decide) (by decide) ?_
    show Steps p.tables e below (s₁.setTop (mkF m 16 #[.val (.int (123 : Int32))] [(.int (1 : Int32))])) _
    exact retN X0 hx (t := .boolean) Bd.returns (by simp) (hb hby d_jdk_43_method_4_code_16) hr
  · show Q_canEI Z  h0 n0 _ s₁.heap _
    rw [e0]
    exact ⟨rfl, N0, rfl⟩
theorem d_jdk_29_method_65_code_0 : decode jdk_29_method_65_code 0 = .ok (.iload_n 0, 1) := by decide +kernel
theorem d_jdk_29_method_65_code_1 : decode jdk_29_method_65_code 1 = .ok (.iload_n 1, 1) := by decide +kernel
theorem d_jdk_29_method_65_code_2 : decode jdk_29_method_65_code 2 = .ok (.if_icmp .lt 7, 3) := by decide +kernel
theorem d_jdk_29_method_65_code_5 : decode jdk_29_method_65_code 5 = .ok (.iload_n 0, 1) := by decide +kernel
theorem d_jdk_29_method_65_code_6 : decode jdk_29_method_65_code 6 = .ok (.goto 4, 3) := by decide +kernel
theorem d_jdk_29_method_65_code_10 : decode jdk_29_method_65_code 10 = .ok (.ireturn, 1) := by decide +kernel
def Q_mmax (Z : State) (xa : Int32) (xd : Int32) (h0 : Heap) (n0 : Nat) (v : Option Value) (h : Heap) (L : List Loc) : Prop := (v = some (.int xa)) ∧ (Fr n0 L) ∧ (h = h0)
set_option maxRecDepth 65536 in
set_option maxHeartbeats 40000000 in
theorem rm_mmax (l : Launch) (Z : State) (a0 : Array Value) (hw : ∀ d ∈ tables_1, d.before a0 Z = true) (ws : List Jvm.Cond) (xa : Int32) (xd : Int32) (h0 : Heap) (n0 : Nat) (Z0 : n0 ≤ h0.size) (hab : ¬ (xa < xd)) :
    MetFree l (⟨"java/lang/Math", "max", "(II)I"⟩ : MethodName) (head1 (Jvm.Cond.code (⟨"java/lang/Math", "max", "(II)I"⟩ : MethodName) jdk_29_method_65_code 2 (some .int) :: ws) ({ frames := 0, cells := 0, slots := 0, locals := 0 } : Room)) (fun a₁ U₁ => a₁ = #[(.int xa), (.int xd)] ∧ Z.Warmed39 U₁.vm ∧ U₁.heap = h0) (fun _ _ _ _ _ => True) (fun _ U₁ o₁ U₂ => ∃ v₁ L₁, o₁ = .returned v₁ ∧ Q_mmax Z xa xd h0 n0 v₁ U₂.heap L₁ ∧ FrameEnd U₁ o₁ U₂ L₁ ({ frames := 0, cells := 0, slots := 0, locals := 0 } : Room).cells ({ frames := 0, cells := 0, slots := 0, locals := 0 } : Room).slots) := by
  refine MetFree.of_bodySF (Jvm.Free.JP.mathPlain rfl (by decide +kernel)) hisR ?_
  intro p e s m args below meth c s₁ Bd hml0 hP hK
  obtain ⟨rfl, hZ, hh⟩ := hP
  have hx := Bd.exec
  have hby := Bd.bytes
  have hml : c.maxLocals = 2 := hml0
  have hown : s.vm.findClass "java/lang/Math" = some m.cls := findClass_of_methodNamed Bd.named
  have hnm := (name_of_methodNamed Bd.named Bd.method).1
  have X0 : Stand p l e ({ frames := 0, cells := 0, slots := 0, locals := 0 } : Room) s m #[(.int xa), (.int xd)] below meth c s₁ [] 0 0 := Stand.of_body Bd
  have e0 : s₁.heap = h0 := by rw [← hh, Bd.state]; rfl
  have N0 := Fr.nil n0
  have pre0 : ∀ t, Steps p.tables e below (s₁.setTop (mkF m 0 #[.val (.int xa), .val (.int xd)] [])) t → Steps p.tables e below (s₁.setTop (entryFrame m #[(.int xa), (.int xd)] 2)) t := fun t k => castTop (ef_8 m xa xd) k
  obtain ⟨fs, hr, hrun, hended, hW, hsame⟩ := X0.leave (v := some (.int xa)) (fun h => by rw [Bd.returns] at h; cases h)
  refine ⟨_, _, pre0 _ ?_, hrun, hended, _, _, rfl, ?_, ⟨_, rfl⟩, hW, hsame.mono (by decide) (by decide)⟩
  · refine XS.iloadN X0.here hx rfl (hb hby d_jdk_29_method_65_code_0) rfl ?_
    show Steps p.tables e below (s₁.setTop (mkF m 1 #[.val (.int xa), .val (.int xd)] [(.int xa)])) _
    refine XS.iloadN X0.here hx rfl (hb hby d_jdk_29_method_65_code_1) rfl ?_
    show Steps p.tables e below (s₁.setTop (mkF m 2 #[.val (.int xa), .val (.int xd)] [(.int xd), (.int xa)])) _
    refine XS.icmpNo X0.here hx rfl (hb hby d_jdk_29_method_65_code_2) rfl (flt (hab : ¬ (xa < xd))).1 ?_
    show Steps p.tables e below (s₁.setTop (mkF m 5 #[.val (.int xa), .val (.int xd)] [])) _
    refine XS.iloadN X0.here hx rfl (hb hby d_jdk_29_method_65_code_5) rfl ?_
    show Steps p.tables e below (s₁.setTop (mkF m 6 #[.val (.int xa), .val (.int xd)] [(.int xa)])) _
    refine XS.goto X0.here hx rfl (pc0 := 6) (pc' := 10) rfl (hb hby d_jdk_29_method_65_code_6) (by decide) (by decide) ?_
    show Steps p.tables e below (s₁.setTop (mkF m 10 #[.val (.int xa), .val (.int xd)] [(.int xa)])) _
    exact retI X0 hx Bd.returns (hb hby d_jdk_29_method_65_code_10) hr
  · show Q_mmax Z xa xd h0 n0 _ s₁.heap _
    rw [e0]
    exact ⟨rfl, N0, rfl⟩
theorem d_jdk_29_method_69_code_5 : decode jdk_29_method_69_code 5 = .ok (.iload_n 0, 1) := by decide +kernel
theorem d_jdk_29_method_69_code_6 : decode jdk_29_method_69_code 6 = .ok (.goto 4, 3) := by decide +kernel
def Q_mmin1 (Z : State) (xa : Int32) (xd : Int32) (h0 : Heap) (n0 : Nat) (v : Option Value) (h : Heap) (L : List Loc) : Prop := (v = some (.int xa)) ∧ (Fr n0 L) ∧ (h = h0)
set_option maxRecDepth 65536 in
set_option maxHeartbeats 40000000 in
theorem rm_mmin1 (l : Launch) (Z : State) (a0 : Array Value) (hw : ∀ d ∈ tables_1, d.before a0 Z = true) (ws : List Jvm.Cond) (xa : Int32) (xd : Int32) (h0 : Heap) (n0 : Nat) (Z0 : n0 ≤ h0.size) (hab : ¬ (xd < xa)) :
    MetFree l (⟨"java/lang/Math", "min", "(II)I"⟩ : MethodName) (head1 (Jvm.Cond.code (⟨"java/lang/Math", "min", "(II)I"⟩ : MethodName) jdk_29_method_69_code 2 (some .int) :: ws) ({ frames := 0, cells := 0, slots := 0, locals := 0 } : Room)) (fun a₁ U₁ => a₁ = #[(.int xa), (.int xd)] ∧ Z.Warmed39 U₁.vm ∧ U₁.heap = h0) (fun _ _ _ _ _ => True) (fun _ U₁ o₁ U₂ => ∃ v₁ L₁, o₁ = .returned v₁ ∧ Q_mmin1 Z xa xd h0 n0 v₁ U₂.heap L₁ ∧ FrameEnd U₁ o₁ U₂ L₁ ({ frames := 0, cells := 0, slots := 0, locals := 0 } : Room).cells ({ frames := 0, cells := 0, slots := 0, locals := 0 } : Room).slots) := by
  refine MetFree.of_bodySF (Jvm.Free.JP.mathPlain rfl (by decide +kernel)) hisR ?_
  intro p e s m args below meth c s₁ Bd hml0 hP hK
  obtain ⟨rfl, hZ, hh⟩ := hP
  have hx := Bd.exec
  have hby := Bd.bytes
  have hml : c.maxLocals = 2 := hml0
  have hown : s.vm.findClass "java/lang/Math" = some m.cls := findClass_of_methodNamed Bd.named
  have hnm := (name_of_methodNamed Bd.named Bd.method).1
  have X0 : Stand p l e ({ frames := 0, cells := 0, slots := 0, locals := 0 } : Room) s m #[(.int xa), (.int xd)] below meth c s₁ [] 0 0 := Stand.of_body Bd
  have e0 : s₁.heap = h0 := by rw [← hh, Bd.state]; rfl
  have N0 := Fr.nil n0
  have pre0 : ∀ t, Steps p.tables e below (s₁.setTop (mkF m 0 #[.val (.int xa), .val (.int xd)] [])) t → Steps p.tables e below (s₁.setTop (entryFrame m #[(.int xa), (.int xd)] 2)) t := fun t k => castTop (ef_8 m xa xd) k
  obtain ⟨fs, hr, hrun, hended, hW, hsame⟩ := X0.leave (v := some (.int xa)) (fun h => by rw [Bd.returns] at h; cases h)
  refine ⟨_, _, pre0 _ ?_, hrun, hended, _, _, rfl, ?_, ⟨_, rfl⟩, hW, hsame.mono (by decide) (by decide)⟩
  · refine XS.iloadN X0.here hx rfl (hb hby d_jdk_29_method_69_code_0) rfl ?_
    show Steps p.tables e below (s₁.setTop (mkF m 1 #[.val (.int xa), .val (.int xd)] [(.int xa)])) _
    refine XS.iloadN X0.here hx rfl (hb hby d_jdk_29_method_69_code_1) rfl ?_
    show Steps p.tables e below (s₁.setTop (mkF m 2 #[.val (.int xa), .val (.int xd)] [(.int xd), (.int xa)])) _
    refine XS.icmpNo X0.here hx rfl (hb hby d_jdk_29_method_69_code_2) rfl (flt (hab : ¬ (xd < xa))).2.2.1 ?_
    show Steps p.tables e below (s₁.setTop (mkF m 5 #[.val (.int xa), .val (.int xd)] [])) _
    refine XS.iloadN X0.here hx rfl (hb hby d_jdk_29_method_69_code_5) rfl ?_
    show Steps p.tables e below (s₁.setTop (mkF m 6 #[.val (.int xa), .val (.int xd)] [(.int xa)])) _
    refine XS.goto X0.here hx rfl (pc0 := 6) (pc' := 10) rfl (hb hby d_jdk_29_method_69_code_6) (by decide) (by decide) ?_
    show Steps p.tables e below (s₁.setTop (mkF m 10 #[.val (.int xa), .val (.int xd)] [(.int xa)])) _
    exact retI X0 hx Bd.returns (hb hby d_jdk_29_method_69_code_10) hr
  · show Q_mmin1 Z xa xd h0 n0 _ s₁.heap _
    rw [e0]
    exact ⟨rfl, N0, rfl⟩
theorem d_jdk_43_method_23_code_7 : decode jdk_43_method_23_code 7 = .ok (.iload 5, 2) := by decide +kernel
theorem d_jdk_43_method_23_code_9 : decode jdk_43_method_23_code 9 = .ok (.iload_n 3, 1) := by decide +kernel
theorem d_jdk_43_method_23_code_10 : decode jdk_43_method_23_code 10 = .ok (.if_icmp .ge 21, 3) := by decide +kernel
theorem d_jdk_43_method_23_code_13 : decode jdk_43_method_23_code 13 = .ok (.aload_n 0, 1) := by decide +kernel
theorem d_jdk_43_method_23_code_14 : decode jdk_43_method_23_code 14 = .ok (.iload 5, 2) := by decide +kernel
theorem d_jdk_43_method_23_code_16 : decode jdk_43_method_23_code 16 = .ok (.baload, 1) := by decide +kernel
theorem d_jdk_43_method_23_code_17 : decode jdk_43_method_23_code 17 = .ok (.iload 4, 2) := by decide +kernel
theorem d_jdk_43_method_23_code_19 : decode jdk_43_method_23_code 19 = .ok (.if_icmp .ne 6, 3) := by decide +kernel
theorem d_jdk_43_method_23_code_25 : decode jdk_43_method_23_code 25 = .ok (.iinc 5 1, 3) := by decide +kernel
theorem d_jdk_43_method_23_code_28 : decode jdk_43_method_23_code 28 = .ok (.goto (-21), 3) := by decide +kernel
set_option maxRecDepth 65536 in
set_option maxHeartbeats 40000000 in
theorem lp_ixc {p : Program} {l : Launch} {e : Env} {R : Room} {s : State} {m : MethodId} {args : Array Value} {below : List Frame} {meth : Method} {c : Code} {cells slots : Nat} {Z : State} {a0 : Array Value} {n0 : Nat} (t1 : Addr) (k1 : ClassId) (ds : List Int32) (ie : Nat) (hx : p.tables.exec = Jvm.exec) (hZ : Z.Warmed39 s.vm) (hw : ∀ d ∈ tables_1, d.before a0 Z = true) (hby : c.code = jdk_43_method_23_code) (hml : c.maxLocals = 6) (hown : s.vm.findClass "java/lang/StringLatin1" = some m.cls) (hcl : cells ≤ R.cells) (hsl : slots ≤ R.slots) (hfr : 0 ≤ R.frames) (hlo : 0 ≤ R.locals) (h31 : ds.length < 2 ^ 31) (hno : ∀ c ∈ ds, own_L c ∧ ¬ c = (123 : Int32)) (hie : ie = ds.length) :
    ∀ (k : Nat) (i : Nat) (T0 : State) (h0 : Heap) (locs : List Loc), Stand p l e R s m args below meth c T0 locs cells slots → T0.heap = h0 → Fr n0 locs → n0 ≤ h0.size → Arv Z h0 t1 k1 .byte (Int32.ofNat ds.length) (own_bs ds) (.int 0) → (i + k = ie) → ∃ (T' : State) (h' : Heap) (locs' : List Loc), Stand p l e R s m args below meth c T' locs' cells slots ∧ T'.heap = h' ∧ Fr n0 locs' ∧ Keep h0 h' ([] : List Addr) ∧ ∀ t, Steps p.tables e below (T'.setTop (mkF m 31 #[.val (.ref t1), .val (.int (123 : Int32)), .val (.int (0 : Int32)), .val (.int (Int32.ofNat ds.length)), .val (.int (123 : Int32)), .val (.int (Int32.ofNat ie))] [])) t → Steps p.tables e below (T0.setTop (mkF m 7 #[.val (.ref t1), .val (.int (123 : Int32)), .val (.int (0 : Int32)), .val (.int (Int32.ofNat ds.length)), .val (.int (123 : Int32)), .val (.int (Int32.ofNat i))] [])) t := by
  intro k
  induction k with
  | zero =>
    intro i T0 h0 locs X0 e0 N0 Z0 q0 hik
    have pre0 : ∀ t, Steps p.tables e below (T0.setTop (mkF m 7 #[.val (.ref t1), .val (.int (123 : Int32)), .val (.int (0 : Int32)), .val (.int (Int32.ofNat ds.length)), .val (.int (123 : Int32)), .val (.int (Int32.ofNat i))] [])) t → Steps p.tables e below (T0.setTop (mkF m 7 #[.val (.ref t1), .val (.int (123 : Int32)), .val (.int (0 : Int32)), .val (.int (Int32.ofNat ds.length)), .val (.int (123 : Int32)), .val (.int (Int32.ofNat i))] [])) t := fun _ kk => kk
    have hi2 : i = ie := by omega
    have pre301 : ∀ t, Steps p.tables e below (T0.setTop (mkF m 31 #[.val (.ref t1), .val (.int (123 : Int32)), .val (.int (0 : Int32)), .val (.int (Int32.ofNat ds.length)), .val (.int (123 : Int32)), .val (.int (Int32.ofNat i))] [])) t → Steps p.tables e below (T0.setTop (mkF m 7 #[.val (.ref t1), .val (.int (123 : Int32)), .val (.int (0 : Int32)), .val (.int (Int32.ofNat ds.length)), .val (.int (123 : Int32)), .val (.int (Int32.ofNat i))] [])) t := fun t kk => pre0 t (by
      refine XS.iload X0.here hx rfl (hb hby d_jdk_43_method_23_code_7) rfl ?_
      show Steps p.tables e below (T0.setTop (mkF m 9 #[.val (.ref t1), .val (.int (123 : Int32)), .val (.int (0 : Int32)), .val (.int (Int32.ofNat ds.length)), .val (.int (123 : Int32)), .val (.int (Int32.ofNat i))] [(.int (Int32.ofNat i))])) _
      refine XS.iloadN X0.here hx rfl (hb hby d_jdk_43_method_23_code_9) rfl ?_
      show Steps p.tables e below (T0.setTop (mkF m 10 #[.val (.ref t1), .val (.int (123 : Int32)), .val (.int (0 : Int32)), .val (.int (Int32.ofNat ds.length)), .val (.int (123 : Int32)), .val (.int (Int32.ofNat i))] [(.int (Int32.ofNat ds.length)), (.int (Int32.ofNat i))])) _
      refine XS.icmpYes X0.here hx rfl (pc0 := 10) (pc' := 31) rfl (hb hby d_jdk_43_method_23_code_10) rfl (flt ((own_nlt (by omega) (by omega)) : ¬ ((Int32.ofNat i) < (Int32.ofNat ds.length)))).2.1 (by decide) (by decide) ?_
      show Steps p.tables e below (T0.setTop (mkF m 31 #[.val (.ref t1), .val (.int (123 : Int32)), .val (.int (0 : Int32)), .val (.int (Int32.ofNat ds.length)), .val (.int (123 : Int32)), .val (.int (Int32.ofNat i))] [])) _
      exact kk)
    exact ⟨T0, h0, _, X0, e0, N0, (Keep.refl h0 ([] : List Addr)), (by rw [← hi2]; exact pre301)⟩
  | succ k ih =>
    intro i T0 h0 locs X0 e0 N0 Z0 q0 hik
    have pre0 : ∀ t, Steps p.tables e below (T0.setTop (mkF m 7 #[.val (.ref t1), .val (.int (123 : Int32)), .val (.int (0 : Int32)), .val (.int (Int32.ofNat ds.length)), .val (.int (123 : Int32)), .val (.int (Int32.ofNat i))] [])) t → Steps p.tables e below (T0.setTop (mkF m 7 #[.val (.ref t1), .val (.int (123 : Int32)), .val (.int (0 : Int32)), .val (.int (Int32.ofNat ds.length)), .val (.int (123 : Int32)), .val (.int (Int32.ofNat i))] [])) t := fun _ kk => kk
    have hid : i < ds.length := by omega
    obtain ⟨cl301, Ar301, qq301, S301, M301, Hh301, U301⟩ := id q0
    have ib301 : ¬ ((Int32.ofNat i) < 0 ∨ cl301.slots.size ≤ ((Int32.ofNat i)).toNatClampNeg) := inb_of S301 (own_inb hid h31)
    have pre302 : ∀ t, Steps p.tables e below (T0.setTop (mkF m 7 #[.val (.ref t1), .val (.int (123 : Int32)), .val (.int (0 : Int32)), .val (.int (Int32.ofNat ds.length)), .val (.int (123 : Int32)), .val (.int ((Int32.ofNat i) + (1 : Int32)))] [])) t → Steps p.tables e below (T0.setTop (mkF m 7 #[.val (.ref t1), .val (.int (123 : Int32)), .val (.int (0 : Int32)), .val (.int (Int32.ofNat ds.length)), .val (.int (123 : Int32)), .val (.int (Int32.ofNat i))] [])) t := fun t kk => pre0 t (by
      refine XS.iload X0.here hx rfl (hb hby d_jdk_43_method_23_code_7) rfl ?_
      show Steps p.tables e below (T0.setTop (mkF m 9 #[.val (.ref t1), .val (.int (123 : Int32)), .val (.int (0 : Int32)), .val (.int (Int32.ofNat ds.length)), .val (.int (123 : Int32)), .val (.int (Int32.ofNat i))] [(.int (Int32.ofNat i))])) _
      refine XS.iloadN X0.here hx rfl (hb hby d_jdk_43_method_23_code_9) rfl ?_
      show Steps p.tables e below (T0.setTop (mkF m 10 #[.val (.ref t1), .val (.int (123 : Int32)), .val (.int (0 : Int32)), .val (.int (Int32.ofNat ds.length)), .val (.int (123 : Int32)), .val (.int (Int32.ofNat i))] [(.int (Int32.ofNat ds.length)), (.int (Int32.ofNat i))])) _
      refine XS.icmpNo X0.here hx rfl (hb hby d_jdk_43_method_23_code_10) rfl (tlt ((own_inb hid h31).2 : (Int32.ofNat i) < (Int32.ofNat ds.length))).2.1 ?_
      show Steps p.tables e below (T0.setTop (mkF m 13 #[.val (.ref t1), .val (.int (123 : Int32)), .val (.int (0 : Int32)), .val (.int (Int32.ofNat ds.length)), .val (.int (123 : Int32)), .val (.int (Int32.ofNat i))] [])) _
      refine XS.aloadN X0.here hx rfl (hb hby d_jdk_43_method_23_code_13) rfl rfl ?_
      show Steps p.tables e below (T0.setTop (mkF m 14 #[.val (.ref t1), .val (.int (123 : Int32)), .val (.int (0 : Int32)), .val (.int (Int32.ofNat ds.length)), .val (.int (123 : Int32)), .val (.int (Int32.ofNat i))] [(.ref t1)])) _
      refine XS.iload X0.here hx rfl (hb hby d_jdk_43_method_23_code_14) rfl ?_
      show Steps p.tables e below (T0.setTop (mkF m 16 #[.val (.ref t1), .val (.int (123 : Int32)), .val (.int (0 : Int32)), .val (.int (Int32.ofNat ds.length)), .val (.int (123 : Int32)), .val (.int (Int32.ofNat i))] [(.int (Int32.ofNat i)), (.ref t1)])) _
      refine X0.baloadBytes hx (j := (Int32.ofNat i)) (v := (.int (StrChars.lo8 (ds.getD i 0)))) (by rw [e0]; exact Ar301.1) (State.isArrayOf_alike hZ.alike Ar301.2.1) Ar301.2.2 ib301 (Hh301.at ib301 (by rw [own_clamp (by omega)]; exact StrChars.Road.low_at _ _ _ hid)) (g := (mkF m 16 #[.val (.ref t1), .val (.int (123 : Int32)), .val (.int (0 : Int32)), .val (.int (Int32.ofNat ds.length)), .val (.int (123 : Int32)), .val (.int (Int32.ofNat i))] [(.int (Int32.ofNat i)), (.ref t1)])) rfl rfl (hb hby d_jdk_43_method_23_code_16) _ ?_
      show Steps p.tables e below (T0.setTop (mkF m 17 #[.val (.ref t1), .val (.int (123 : Int32)), .val (.int (0 : Int32)), .val (.int (Int32.ofNat ds.length)), .val (.int (123 : Int32)), .val (.int (Int32.ofNat i))] [(.int (StrChars.lo8 (ds.getD i 0)))])) _
      refine XS.iload X0.here hx rfl (hb hby d_jdk_43_method_23_code_17) rfl ?_
      show Steps p.tables e below (T0.setTop (mkF m 19 #[.val (.ref t1), .val (.int (123 : Int32)), .val (.int (0 : Int32)), .val (.int (Int32.ofNat ds.length)), .val (.int (123 : Int32)), .val (.int (Int32.ofNat i))] [(.int (123 : Int32)), (.int (StrChars.lo8 (ds.getD i 0)))])) _
      refine XS.icmpYes X0.here hx rfl (pc0 := 19) (pc' := 25) rfl (hb hby d_jdk_43_method_23_code_19) rfl (feq ((own_not123 (hno _ (own_getmem hid))) : ¬ ((StrChars.lo8 (ds.getD i 0)) = (123 : Int32)))).2 (by decide) (by decide) ?_
      show Steps p.tables e below (T0.setTop (mkF m 25 #[.val (.ref t1), .val (.int (123 : Int32)), .val (.int (0 : Int32)), .val (.int (Int32.ofNat ds.length)), .val (.int (123 : Int32)), .val (.int (Int32.ofNat i))] [])) _
      refine XS.iinc X0.here hx rfl (hb hby d_jdk_43_method_23_code_25) rfl (l' := #[.val (.ref t1), .val (.int (123 : Int32)), .val (.int (0 : Int32)), .val (.int (Int32.ofNat ds.length)), .val (.int (123 : Int32)), .val (.int ((Int32.ofNat i) + (1 : Int32)))]) rfl ?_
      show Steps p.tables e below (T0.setTop (mkF m 28 #[.val (.ref t1), .val (.int (123 : Int32)), .val (.int (0 : Int32)), .val (.int (Int32.ofNat ds.length)), .val (.int (123 : Int32)), .val (.int ((Int32.ofNat i) + (1 : Int32)))] [])) _
      refine XS.goto X0.here hx rfl (pc0 := 28) (pc' := 7) rfl (hb hby d_jdk_43_method_23_code_28) (by decide) (by decide) ?_
      show Steps p.tables e below (T0.setTop (mkF m 7 #[.val (.ref t1), .val (.int (123 : Int32)), .val (.int (0 : Int32)), .val (.int (Int32.ofNat ds.length)), .val (.int (123 : Int32)), .val (.int ((Int32.ofNat i) + (1 : Int32)))] [])) _
      exact kk)
    have preH : ∀ t, Steps p.tables e below (T0.setTop (mkF m 7 #[.val (.ref t1), .val (.int (123 : Int32)), .val (.int (0 : Int32)), .val (.int (Int32.ofNat ds.length)), .val (.int (123 : Int32)), .val (.int (Int32.ofNat (i + 1)))] [])) t → Steps p.tables e below (T0.setTop (mkF m 7 #[.val (.ref t1), .val (.int (123 : Int32)), .val (.int (0 : Int32)), .val (.int (Int32.ofNat ds.length)), .val (.int (123 : Int32)), .val (.int (Int32.ofNat i))] [])) t := by
      rw [inc_ofNat i]
      exact pre302
    obtain ⟨T9, h9, lo9, X9, e9, N9, K9, pre9⟩ := ih ((i + 1)) T0 h0 _ X0 e0 N0 Z0 q0 (by omega)
    exact ⟨T9, h9, _, X9, e9, N9, ((Keep.refl h0 ([] : List Addr)).trans K9 all0), fun t kk => preH t (pre9 t kk)⟩
theorem d_jdk_43_method_23_code_0 : decode jdk_43_method_23_code 0 = .ok (.iload_n 1, 1) := by decide +kernel
theorem d_jdk_43_method_23_code_1 : decode jdk_43_method_23_code 1 = .ok (.i2b, 1) := by decide +kernel
theorem d_jdk_43_method_23_code_2 : decode jdk_43_method_23_code 2 = .ok (.istore 4, 2) := by decide +kernel
theorem d_jdk_43_method_23_code_4 : decode jdk_43_method_23_code 4 = .ok (.iload_n 2, 1) := by decide +kernel
theorem d_jdk_43_method_23_code_5 : decode jdk_43_method_23_code 5 = .ok (.istore 5, 2) := by decide +kernel
theorem d_jdk_43_method_23_code_31 : decode jdk_43_method_23_code 31 = .ok (.iconst (-1), 1) := by decide +kernel
theorem d_jdk_43_method_23_code_32 : decode jdk_43_method_23_code 32 = .ok (.ireturn, 1) := by decide +kernel
theorem ef_15 (m : MethodId) (x0 : Addr) (x1 : Int32) (x2 : Int32) (x3 : Int32) : entryFrame m #[(.ref x0), (.int x1), (.int x2), (.int x3)] 6 = mkF m 0 #[.val (.ref x0), .val (.int x1), .val (.int x2), .val (.int x3), .unset, .unset] [] := by first | (simp [entryFrame, mkF, argsToLocals, Value.category]; done) | rfl
def Q_ixC (Z : State) (t1 : Addr) (k1 : ClassId) (ds : List Int32) (h0 : Heap) (n0 : Nat) (v : Option Value) (h : Heap) (L : List Loc) : Prop := (v = some (.int (-1 : Int32))) ∧ (Fr n0 L) ∧ (Keep h0 h ([] : List Addr))
set_option maxRecDepth 65536 in
set_option maxHeartbeats 40000000 in
theorem rm_ixC (l : Launch) (Z : State) (a0 : Array Value) (hw : ∀ d ∈ tables_1, d.before a0 Z = true) (ws : List Jvm.Cond) (t1 : Addr) (k1 : ClassId) (ds : List Int32) (h0 : Heap) (n0 : Nat) (Z0 : n0 ≤ h0.size) (q0 : Arv Z h0 t1 k1 .byte (Int32.ofNat ds.length) (own_bs ds) (.int 0)) (h31 : ds.length < 2 ^ 31) (hno : ∀ c ∈ ds, own_L c ∧ ¬ c = (123 : Int32)) :
    MetFree l (⟨"java/lang/StringLatin1", "indexOfChar", "([BIII)I"⟩ : MethodName) (head1 (Jvm.Cond.code (⟨"java/lang/StringLatin1", "indexOfChar", "([BIII)I"⟩ : MethodName) jdk_43_method_23_code 6 (some .int) :: ws) ({ frames := 0, cells := 0, slots := 0, locals := 0 } : Room)) (fun a₁ U₁ => a₁ = #[(.ref t1), (.int (123 : Int32)), (.int (0 : Int32)), (.int (Int32.ofNat ds.length))] ∧ Z.Warmed39 U₁.vm ∧ U₁.heap = h0) (fun _ _ _ _ _ => True) (fun _ U₁ o₁ U₂ => ∃ v₁ L₁, o₁ = .returned v₁ ∧ Q_ixC Z t1 k1 ds h0 n0 v₁ U₂.heap L₁ ∧ FrameEnd U₁ o₁ U₂ L₁ ({ frames := 0, cells := 0, slots := 0, locals := 0 } : Room).cells ({ frames := 0, cells := 0, slots := 0, locals := 0 } : Room).slots) := by
  refine MetFree.of_bodySF (plainFor_of_name pn_0) hisR ?_
  intro p e s m args below meth c s₁ Bd hml0 hP hK
  obtain ⟨rfl, hZ, hh⟩ := hP
  have hx := Bd.exec
  have hby := Bd.bytes
  have hml : c.maxLocals = 6 := hml0
  have hown : s.vm.findClass "java/lang/StringLatin1" = some m.cls := findClass_of_methodNamed Bd.named
  have hnm := (name_of_methodNamed Bd.named Bd.method).1
  have X0 : Stand p l e ({ frames := 0, cells := 0, slots := 0, locals := 0 } : Room) s m #[(.ref t1), (.int (123 : Int32)), (.int (0 : Int32)), (.int (Int32.ofNat ds.length))] below meth c s₁ [] 0 0 := Stand.of_body Bd
  have e0 : s₁.heap = h0 := by rw [← hh, Bd.state]; rfl
  have N0 := Fr.nil n0
  have pre0 : ∀ t, Steps p.tables e below (s₁.setTop (mkF m 0 #[.val (.ref t1), .val (.int (123 : Int32)), .val (.int (0 : Int32)), .val (.int (Int32.ofNat ds.length)), .unset, .unset] [])) t → Steps p.tables e below (s₁.setTop (entryFrame m #[(.ref t1), (.int (123 : Int32)), (.int (0 : Int32)), (.int (Int32.ofNat ds.length))] 6)) t := fun t k => castTop (ef_15 m t1 (123 : Int32) (0 : Int32) (Int32.ofNat ds.length)) k
  have pre301 : ∀ t, Steps p.tables e below (s₁.setTop (mkF m 7 #[.val (.ref t1), .val (.int (123 : Int32)), .val (.int (0 : Int32)), .val (.int (Int32.ofNat ds.length)), .val (.int (123 : Int32)), .val (.int (0 : Int32))] [])) t → Steps p.tables e below (s₁.setTop (entryFrame m #[(.ref t1), (.int (123 : Int32)), (.int (0 : Int32)), (.int (Int32.ofNat ds.length))] 6)) t := fun t kk => pre0 t (by
    refine XS.iloadN X0.here hx rfl (hb hby d_jdk_43_method_23_code_0) rfl ?_
    show Steps p.tables e below (s₁.setTop (mkF m 1 #[.val (.ref t1), .val (.int (123 : Int32)), .val (.int (0 : Int32)), .val (.int (Int32.ofNat ds.length)), .unset, .unset] [(.int (123 : Int32))])) _
    refine XS.i2b X0.here hx rfl (hb hby d_jdk_43_method_23_code_1) rfl ?_
    show Steps p.tables e below (s₁.setTop (mkF m 2 #[.val (.ref t1), .val (.int (123 : Int32)), .val (.int (0 : Int32)), .val (.int (Int32.ofNat ds.length)), .unset, .unset] [(.int (123 : Int32))])) _
    refine XS.istore X0.here hx rfl (hb hby d_jdk_43_method_23_code_2) rfl (l' := #[.val (.ref t1), .val (.int (123 : Int32)), .val (.int (0 : Int32)), .val (.int (Int32.ofNat ds.length)), .val (.int (123 : Int32)), .unset]) rfl ?_
    show Steps p.tables e below (s₁.setTop (mkF m 4 #[.val (.ref t1), .val (.int (123 : Int32)), .val (.int (0 : Int32)), .val (.int (Int32.ofNat ds.length)), .val (.int (123 : Int32)), .unset] [])) _
    refine XS.iloadN X0.here hx rfl (hb hby d_jdk_43_method_23_code_4) rfl ?_
    show Steps p.tables e below (s₁.setTop (mkF m 5 #[.val (.ref t1), .val (.int (123 : Int32)), .val (.int (0 : Int32)), .val (.int (Int32.ofNat ds.length)), .val (.int (123 : Int32)), .unset] [(.int (0 : Int32))])) _
    refine XS.istore X0.here hx rfl (hb hby d_jdk_43_method_23_code_5) rfl (l' := #[.val (.ref t1), .val (.int (123 : Int32)), .val (.int (0 : Int32)), .val (.int (Int32.ofNat ds.length)), .val (.int (123 : Int32)), .val (.int (0 : Int32))]) rfl ?_
    show Steps p.tables e below (s₁.setTop (mkF m 7 #[.val (.ref t1), .val (.int (123 : Int32)), .val (.int (0 : Int32)), .val (.int (Int32.ofNat ds.length)), .val (.int (123 : Int32)), .val (.int (0 : Int32))] [])) _
    exact kk)
  have preh302 : ∀ t, Steps p.tables e below (s₁.setTop (mkF m 7 #[.val (.ref t1), .val (.int (123 : Int32)), .val (.int (0 : Int32)), .val (.int (Int32.ofNat ds.length)), .val (.int (123 : Int32)), .val (.int (Int32.ofNat 0))] [])) t → Steps p.tables e below (s₁.setTop (entryFrame m #[(.ref t1), (.int (123 : Int32)), (.int (0 : Int32)), (.int (Int32.ofNat ds.length))] 6)) t := by
    exact pre301
  obtain ⟨T302, h302, lo302, X302, e302, N302, K302, st302⟩ := lp_ixc (t1) (k1) (ds) (ds.length) hx hZ hw hby hml hown (by decide : 0 ≤ _) (by decide : 0 ≤ _) (by decide) (by decide) h31 hno (rfl) ds.length (0) s₁ h0 _ X0 e0 N0 Z0 q0 (Nat.zero_add _)
  obtain ⟨fs, hr, hrun, hended, hW, hsame⟩ := X302.leave (v := some (.int (-1 : Int32))) (fun h => by rw [Bd.returns] at h; cases h)
  refine ⟨_, _, preh302 _ ?_, hrun, hended, _, _, rfl, ?_, ⟨_, rfl⟩, hW, hsame.mono (by decide) (by decide)⟩
  · refine st302 _ ?_
    show Steps p.tables e below (T302.setTop (mkF m 31 #[.val (.ref t1), .val (.int (123 : Int32)), .val (.int (0 : Int32)), .val (.int (Int32.ofNat ds.length)), .val (.int (123 : Int32)), .val (.int (Int32.ofNat ds.length))] [])) _
    refine XS.iconst X302.here hx rfl (hb hby d_jdk_43_method_23_code_31) ?_
    show Steps p.tables e below (T302.setTop (mkF m 32 #[.val (.ref t1), .val (.int (123 : Int32)), .val (.int (0 : Int32)), .val (.int (Int32.ofNat ds.length)), .val (.int (123 : Int32)), .val (.int (Int32.ofNat ds.length))] [(.int (-1 : Int32))])) _
    exact retI X302 hx Bd.returns (hb hby d_jdk_43_method_23_code_32) hr
  · show Q_ixC Z t1 k1 ds h0 n0 _ T302.heap _
    rw [e302]
    exact ⟨rfl, N302, ((Keep.refl h0 ([] : List Addr)).trans K302 all0)⟩
theorem d_jdk_43_method_22_code_0 : decode jdk_43_method_22_code 0 = .ok (.iload_n 1, 1) := by decide +kernel
theorem d_jdk_43_method_22_code_1 : decode jdk_43_method_22_code 1 = .ok (.invokestatic 88, 3) := by decide +kernel
theorem pd_18 : parseMethodDescriptor "(I)Z" = some ⟨[.int], some .boolean⟩ := by decide +kernel
theorem d_jdk_43_method_22_code_4 : decode jdk_43_method_22_code 4 = .ok (.ifCond .ne 5, 3) := by decide +kernel
theorem d_jdk_43_method_22_code_9 : decode jdk_43_method_22_code 9 = .ok (.iload_n 2, 1) := by decide +kernel
theorem d_jdk_43_method_22_code_10 : decode jdk_43_method_22_code 10 = .ok (.iconst 0, 1) := by decide +kernel
theorem d_jdk_43_method_22_code_11 : decode jdk_43_method_22_code 11 = .ok (.invokestatic 92, 3) := by decide +kernel
theorem d_jdk_43_method_22_code_14 : decode jdk_43_method_22_code 14 = .ok (.istore_n 2, 1) := by decide +kernel
theorem d_jdk_43_method_22_code_15 : decode jdk_43_method_22_code 15 = .ok (.iload_n 3, 1) := by decide +kernel
theorem d_jdk_43_method_22_code_16 : decode jdk_43_method_22_code 16 = .ok (.aload_n 0, 1) := by decide +kernel
theorem d_jdk_43_method_22_code_17 : decode jdk_43_method_22_code 17 = .ok (.arraylength, 1) := by decide +kernel
theorem d_jdk_43_method_22_code_18 : decode jdk_43_method_22_code 18 = .ok (.invokestatic 38, 3) := by decide +kernel
theorem d_jdk_43_method_22_code_21 : decode jdk_43_method_22_code 21 = .ok (.istore_n 3, 1) := by decide +kernel
theorem d_jdk_43_method_22_code_22 : decode jdk_43_method_22_code 22 = .ok (.iload_n 2, 1) := by decide +kernel
theorem d_jdk_43_method_22_code_23 : decode jdk_43_method_22_code 23 = .ok (.iload_n 3, 1) := by decide +kernel
theorem d_jdk_43_method_22_code_24 : decode jdk_43_method_22_code 24 = .ok (.if_icmp .lt 5, 3) := by decide +kernel
theorem d_jdk_43_method_22_code_27 : decode jdk_43_method_22_code 27 = .ok (.iconst (-1), 1) := by decide +kernel
theorem d_jdk_43_method_22_code_28 : decode jdk_43_method_22_code 28 = .ok (.ireturn, 1) := by decide +kernel
theorem d_jdk_43_method_22_code_29 : decode jdk_43_method_22_code 29 = .ok (.aload_n 0, 1) := by decide +kernel
theorem d_jdk_43_method_22_code_30 : decode jdk_43_method_22_code 30 = .ok (.iload_n 1, 1) := by decide +kernel
theorem d_jdk_43_method_22_code_31 : decode jdk_43_method_22_code 31 = .ok (.iload_n 2, 1) := by decide +kernel
theorem d_jdk_43_method_22_code_32 : decode jdk_43_method_22_code 32 = .ok (.iload_n 3, 1) := by decide +kernel
theorem d_jdk_43_method_22_code_33 : decode jdk_43_method_22_code 33 = .ok (.invokestatic 95, 3) := by decide +kernel
theorem pd_19 : parseMethodDescriptor "([BIII)I" = some ⟨[(.array .byte), .int, .int, .int], some .int⟩ := by decide +kernel
theorem d_jdk_43_method_22_code_36 : decode jdk_43_method_22_code 36 = .ok (.ireturn, 1) := by decide +kernel
theorem ef_16 (m : MethodId) (x0 : Addr) (x1 : Int32) (x2 : Int32) (x3 : Int32) : entryFrame m #[(.ref x0), (.int x1), (.int x2), (.int x3)] 4 = mkF m 0 #[.val (.ref x0), .val (.int x1), .val (.int x2), .val (.int x3)] [] := by first | (simp [entryFrame, mkF, argsToLocals, Value.category]; done) | rfl
def Q_ixL (Z : State) (t1 : Addr) (k1 : ClassId) (ds : List Int32) (h0 : Heap) (n0 : Nat) (v : Option Value) (h : Heap) (L : List Loc) : Prop := (v = some (.int (-1 : Int32))) ∧ (Fr n0 L) ∧ (Keep h0 h ([] : List Addr))
set_option maxRecDepth 65536 in
set_option maxHeartbeats 40000000 in
theorem rm_ixL (l : Launch) (Z : State) (a0 : Array Value) (hw : ∀ d ∈ tables_1, d.before a0 Z = true) (ws : List Jvm.Cond) (t1 : Addr) (k1 : ClassId) (ds : List Int32) (h0 : Heap) (n0 : Nat) (Z0 : n0 ≤ h0.size) (q0 : Arv Z h0 t1 k1 .byte (Int32.ofNat ds.length) (own_bs ds) (.int 0)) (h31 : ds.length < 2 ^ 31) (hno : ∀ c ∈ ds, own_L c ∧ ¬ c = (123 : Int32)) :
    MetFree l (⟨"java/lang/StringLatin1", "indexOf", "([BIII)I"⟩ : MethodName) (head1 (Jvm.Cond.code (⟨"java/lang/StringLatin1", "indexOf", "([BIII)I"⟩ : MethodName) jdk_43_method_22_code 4 (some .int) :: ws) ({ frames := 1, cells := 0, slots := 0, locals := 17 } : Room)) (fun a₁ U₁ => a₁ = #[(.ref t1), (.int (123 : Int32)), (.int (0 : Int32)), (.int (Int32.ofNat ds.length))] ∧ Z.Warmed39 U₁.vm ∧ U₁.heap = h0) (fun _ _ _ _ _ => True) (fun _ U₁ o₁ U₂ => ∃ v₁ L₁, o₁ = .returned v₁ ∧ Q_ixL Z t1 k1 ds h0 n0 v₁ U₂.heap L₁ ∧ FrameEnd U₁ o₁ U₂ L₁ ({ frames := 1, cells := 0, slots := 0, locals := 17 } : Room).cells ({ frames := 1, cells := 0, slots := 0, locals := 17 } : Room).slots) := by
  refine MetFree.of_bodySF (plainFor_of_name pn_0) hisR ?_
  intro p e s m args below meth c s₁ Bd hml0 hP hK
  obtain ⟨rfl, hZ, hh⟩ := hP
  have hx := Bd.exec
  have hby := Bd.bytes
  have hml : c.maxLocals = 4 := hml0
  have hown : s.vm.findClass "java/lang/StringLatin1" = some m.cls := findClass_of_methodNamed Bd.named
  have hnm := (name_of_methodNamed Bd.named Bd.method).1
  have X0 : Stand p l e ({ frames := 1, cells := 0, slots := 0, locals := 17 } : Room) s m #[(.ref t1), (.int (123 : Int32)), (.int (0 : Int32)), (.int (Int32.ofNat ds.length))] below meth c s₁ [] 0 0 := Stand.of_body Bd
  have e0 : s₁.heap = h0 := by rw [← hh, Bd.state]; rfl
  have N0 := Fr.nil n0
  have pre0 : ∀ t, Steps p.tables e below (s₁.setTop (mkF m 0 #[.val (.ref t1), .val (.int (123 : Int32)), .val (.int (0 : Int32)), .val (.int (Int32.ofNat ds.length))] [])) t → Steps p.tables e below (s₁.setTop (entryFrame m #[(.ref t1), (.int (123 : Int32)), (.int (0 : Int32)), (.int (Int32.ofNat ds.length))] 4)) t := fun t k => castTop (ef_16 m t1 (123 : Int32) (0 : Int32) (Int32.ofNat ds.length)) k
  obtain ⟨_, _, ⟨T301, L301, k301, n301⟩, -, X301, ⟨Lc301, hQ301, l301, y301, z301⟩, st301⟩ := Jvm.LawKit.callS X0 hx (y := (⟨"java/lang/StringLatin1", "canEncode", "(I)Z"⟩ : MethodName)) hown (mvT hZ (hw _ (List.mem_of_getElem? (i := 81) rfl))) (mvT hZ (hw _ (List.mem_of_getElem? (i := 82) rfl))) (mvT hZ (hw _ (List.mem_of_getElem? (i := 79) rfl))) (mvT hZ (hw _ (List.mem_of_getElem? (i := 83) rfl))) (by decide) (backOf (W := 0) (rm_canEI l Z a0 hw []  h0 n0 Z0 ) hZ (hw _ (List.mem_of_getElem? (i := 83) rfl)) (hw _ (List.mem_of_getElem? (i := 79) rfl)) (by decide) (by decide)) (g := (mkF m 1 #[.val (.ref t1), .val (.int (123 : Int32)), .val (.int (0 : Int32)), .val (.int (Int32.ofNat ds.length))] [(.int (123 : Int32))])) rfl (by rw [hml]; rfl) (argsL := [(.int (123 : Int32))]) (rest := []) (lenOf pd_18 rfl) rfl (by show 2 * 0 + _ ≤ _; exact Nat.le_of_eq rfl) (hb hby d_jdk_43_method_22_code_1) (fun _ _ => ⟨rfl, e0, (by decide : 0 + 0 ≤ _), (by decide : 0 + 0 ≤ _)⟩)
  dsimp only [Pt.U, Pt.locs, Pt.cells, Pt.slots] at X301 l301 y301 z301 st301 hQ301
  subst l301 y301 z301
  obtain ⟨rfl, Nq301, e301⟩ := hQ301
  have N301 := Fr.app N0 Nq301
  obtain ⟨_, _, ⟨T302, L302, k302, n302⟩, -, X302, ⟨Lc302, hQ302, l302, y302, z302⟩, st302⟩ := Jvm.LawKit.callS X301 hx (y := (⟨"java/lang/Math", "max", "(II)I"⟩ : MethodName)) hown (mvT hZ (hw _ (List.mem_of_getElem? (i := 84) rfl))) (mvT hZ (hw _ (List.mem_of_getElem? (i := 85) rfl))) (mvT hZ (hw _ (List.mem_of_getElem? (i := 86) rfl))) (mvT hZ (hw _ (List.mem_of_getElem? (i := 87) rfl))) (by decide) (backOf (W := 0) (rm_mmax l Z a0 hw [] (0 : Int32) (0 : Int32) h0 n0 Z0 (by decide)) hZ (hw _ (List.mem_of_getElem? (i := 87) rfl)) (hw _ (List.mem_of_getElem? (i := 86) rfl)) (by decide) (by decide)) (g := (mkF m 11 #[.val (.ref t1), .val (.int (123 : Int32)), .val (.int (0 : Int32)), .val (.int (Int32.ofNat ds.length))] [(.int (0 : Int32)), (.int (0 : Int32))])) rfl (by rw [hml]; rfl) (argsL := [(.int (0 : Int32)), (.int (0 : Int32))]) (rest := []) (lenOf pd_11 rfl) rfl (by show 2 * 0 + _ ≤ _; exact Nat.le_of_eq rfl) (hb hby d_jdk_43_method_22_code_11) (fun _ _ => ⟨rfl, e301, (by decide : 0 + 0 ≤ _), (by decide : 0 + 0 ≤ _)⟩)
  dsimp only [Pt.U, Pt.locs, Pt.cells, Pt.slots] at X302 l302 y302 z302 st302 hQ302
  subst l302 y302 z302
  obtain ⟨rfl, Nq302, e302⟩ := hQ302
  have N302 := Fr.app N301 Nq302
  obtain ⟨cl303, Ar303, -, S303, M303, -, -⟩ := id q0
  obtain ⟨_, _, ⟨T304, L304, k304, n304⟩, -, X304, ⟨Lc304, hQ304, l304, y304, z304⟩, st304⟩ := Jvm.LawKit.callS X302 hx (y := (⟨"java/lang/Math", "min", "(II)I"⟩ : MethodName)) hown (mvT hZ (hw _ (List.mem_of_getElem? (i := 88) rfl))) (mvT hZ (hw _ (List.mem_of_getElem? (i := 89) rfl))) (mvT hZ (hw _ (List.mem_of_getElem? (i := 86) rfl))) (mvT hZ (hw _ (List.mem_of_getElem? (i := 90) rfl))) (by decide) (backOf (W := 0) (rm_mmin1 l Z a0 hw [] (Int32.ofNat ds.length) (Int32.ofNat ds.length) h0 n0 Z0 (own_irr _)) hZ (hw _ (List.mem_of_getElem? (i := 90) rfl)) (hw _ (List.mem_of_getElem? (i := 86) rfl)) (by decide) (by decide)) (g := (mkF m 18 #[.val (.ref t1), .val (.int (123 : Int32)), .val (.int (0 : Int32)), .val (.int (Int32.ofNat ds.length))] [(.int (Int32.ofNat ds.length)), (.int (Int32.ofNat ds.length))])) rfl (by rw [hml]; rfl) (argsL := [(.int (Int32.ofNat ds.length)), (.int (Int32.ofNat ds.length))]) (rest := []) (lenOf pd_11 rfl) rfl (by show 2 * 0 + _ ≤ _; exact Nat.le_of_eq rfl) (hb hby d_jdk_43_method_22_code_18) (fun _ _ => ⟨rfl, e302, (by decide : 0 + 0 ≤ _), (by decide : 0 + 0 ≤ _)⟩)
  dsimp only [Pt.U, Pt.locs, Pt.cells, Pt.slots] at X304 l304 y304 z304 st304 hQ304
  subst l304 y304 z304
  obtain ⟨rfl, Nq304, e304⟩ := hQ304
  have N304 := Fr.app N302 Nq304
  have pre305 : ∀ t, Steps p.tables e below (T304.setTop (mkF m 24 #[.val (.ref t1), .val (.int (123 : Int32)), .val (.int (0 : Int32)), .val (.int (Int32.ofNat ds.length))] [(.int (Int32.ofNat ds.length)), (.int (0 : Int32))])) t → Steps p.tables e below (s₁.setTop (entryFrame m #[(.ref t1), (.int (123 : Int32)), (.int (0 : Int32)), (.int (Int32.ofNat ds.length))] 4)) t := fun t kk => pre0 t (by
    refine XS.iloadN X0.here hx rfl (hb hby d_jdk_43_method_22_code_0) rfl ?_
    show Steps p.tables e below (s₁.setTop (mkF m 1 #[.val (.ref t1), .val (.int (123 : Int32)), .val (.int (0 : Int32)), .val (.int (Int32.ofNat ds.length))] [(.int (123 : Int32))])) _
    refine st301 _ ?_
    show Steps p.tables e below (T301.setTop (mkF m 4 #[.val (.ref t1), .val (.int (123 : Int32)), .val (.int (0 : Int32)), .val (.int (Int32.ofNat ds.length))] [(.int (1 : Int32))])) _
    refine XS.ifYes X301.here hx rfl (pc0 := 4) (pc' := 9) rfl (hb hby d_jdk_43_method_22_code_4) rfl ((if0 _ _).trans (feq ((by decide) : ¬ ((1 : Int32) = (0 : Int32)))).2) (by decide) (by decide) ?_
    show Steps p.tables e below (T301.setTop (mkF m 9 #[.val (.ref t1), .val (.int (123 : Int32)), .val (.int (0 : Int32)), .val (.int (Int32.ofNat ds.length))] [])) _
    refine XS.iloadN X301.here hx rfl (hb hby d_jdk_43_method_22_code_9) rfl ?_
    show Steps p.tables e below (T301.setTop (mkF m 10 #[.val (.ref t1), .val (.int (123 : Int32)), .val (.int (0 : Int32)), .val (.int (Int32.ofNat ds.length))] [(.int (0 : Int32))])) _
    refine XS.iconst X301.here hx rfl (hb hby d_jdk_43_method_22_code_10) ?_
    show Steps p.tables e below (T301.setTop (mkF m 11 #[.val (.ref t1), .val (.int (123 : Int32)), .val (.int (0 : Int32)), .val (.int (Int32.ofNat ds.length))] [(.int (0 : Int32)), (.int (0 : Int32))])) _
    refine st302 _ ?_
    show Steps p.tables e below (T302.setTop (mkF m 14 #[.val (.ref t1), .val (.int (123 : Int32)), .val (.int (0 : Int32)), .val (.int (Int32.ofNat ds.length))] [(.int (0 : Int32))])) _
    refine XS.istoreN X302.here hx rfl (hb hby d_jdk_43_method_22_code_14) rfl (l' := #[.val (.ref t1), .val (.int (123 : Int32)), .val (.int (0 : Int32)), .val (.int (Int32.ofNat ds.length))]) rfl ?_
    show Steps p.tables e below (T302.setTop (mkF m 15 #[.val (.ref t1), .val (.int (123 : Int32)), .val (.int (0 : Int32)), .val (.int (Int32.ofNat ds.length))] [])) _
    refine XS.iloadN X302.here hx rfl (hb hby d_jdk_43_method_22_code_15) rfl ?_
    show Steps p.tables e below (T302.setTop (mkF m 16 #[.val (.ref t1), .val (.int (123 : Int32)), .val (.int (0 : Int32)), .val (.int (Int32.ofNat ds.length))] [(.int (Int32.ofNat ds.length))])) _
    refine XS.aloadN X302.here hx rfl (hb hby d_jdk_43_method_22_code_16) rfl rfl ?_
    show Steps p.tables e below (T302.setTop (mkF m 17 #[.val (.ref t1), .val (.int (123 : Int32)), .val (.int (0 : Int32)), .val (.int (Int32.ofNat ds.length))] [(.ref t1), (.int (Int32.ofNat ds.length))])) _
    refine X302.arraylength hx (by rw [e302]; exact Ar303.1) (State.isArrayOf_alike hZ.alike Ar303.2.1) (g := (mkF m 17 #[.val (.ref t1), .val (.int (123 : Int32)), .val (.int (0 : Int32)), .val (.int (Int32.ofNat ds.length))] [(.ref t1), (.int (Int32.ofNat ds.length))])) rfl rfl (hb hby d_jdk_43_method_22_code_17) _ ?_
    rw [len_of S303 M303]
    show Steps p.tables e below (T302.setTop (mkF m 18 #[.val (.ref t1), .val (.int (123 : Int32)), .val (.int (0 : Int32)), .val (.int (Int32.ofNat ds.length))] [(.int (Int32.ofNat ds.length)), (.int (Int32.ofNat ds.length))])) _
    refine st304 _ ?_
    show Steps p.tables e below (T304.setTop (mkF m 21 #[.val (.ref t1), .val (.int (123 : Int32)), .val (.int (0 : Int32)), .val (.int (Int32.ofNat ds.length))] [(.int (Int32.ofNat ds.length))])) _
    refine XS.istoreN X304.here hx rfl (hb hby d_jdk_43_method_22_code_21) rfl (l' := #[.val (.ref t1), .val (.int (123 : Int32)), .val (.int (0 : Int32)), .val (.int (Int32.ofNat ds.length))]) rfl ?_
    show Steps p.tables e below (T304.setTop (mkF m 22 #[.val (.ref t1), .val (.int (123 : Int32)), .val (.int (0 : Int32)), .val (.int (Int32.ofNat ds.length))] [])) _
    refine XS.iloadN X304.here hx rfl (hb hby d_jdk_43_method_22_code_22) rfl ?_
    show Steps p.tables e below (T304.setTop (mkF m 23 #[.val (.ref t1), .val (.int (123 : Int32)), .val (.int (0 : Int32)), .val (.int (Int32.ofNat ds.length))] [(.int (0 : Int32))])) _
    refine XS.iloadN X304.here hx rfl (hb hby d_jdk_43_method_22_code_23) rfl ?_
    show Steps p.tables e below (T304.setTop (mkF m 24 #[.val (.ref t1), .val (.int (123 : Int32)), .val (.int (0 : Int32)), .val (.int (Int32.ofNat ds.length))] [(.int (Int32.ofNat ds.length)), (.int (0 : Int32))])) _
    exact kk)
  by_cases hz : ds.length = 0
  · obtain ⟨fs, hr, hrun, hended, hW, hsame⟩ := X304.leave (v := some (.int (-1 : Int32))) (fun h => by rw [Bd.returns] at h; cases h)
    refine ⟨_, _, pre305 _ ?_, hrun, hended, _, _, rfl, ?_, ⟨_, rfl⟩, hW, hsame.mono (by decide) (by decide)⟩
    · refine XS.icmpNo X304.here hx rfl (hb hby d_jdk_43_method_22_code_24) rfl (flt ((own_nlt (i := 0) (by omega) (by omega)) : ¬ ((0 : Int32) < (Int32.ofNat ds.length)))).1 ?_
      show Steps p.tables e below (T304.setTop (mkF m 27 #[.val (.ref t1), .val (.int (123 : Int32)), .val (.int (0 : Int32)), .val (.int (Int32.ofNat ds.length))] [])) _
      refine XS.iconst X304.here hx rfl (hb hby d_jdk_43_method_22_code_27) ?_
      show Steps p.tables e below (T304.setTop (mkF m 28 #[.val (.ref t1), .val (.int (123 : Int32)), .val (.int (0 : Int32)), .val (.int (Int32.ofNat ds.length))] [(.int (-1 : Int32))])) _
      exact retI X304 hx Bd.returns (hb hby d_jdk_43_method_22_code_28) hr
    · show Q_ixL Z t1 k1 ds h0 n0 _ T304.heap _
      rw [e304]
      exact ⟨rfl, N304, (Keep.refl h0 ([] : List Addr))⟩
  · obtain ⟨_, _, ⟨T306, L306, k306, n306⟩, -, X306, ⟨Lc306, hQ306, l306, y306, z306⟩, st306⟩ := Jvm.LawKit.callS X304 hx (y := (⟨"java/lang/StringLatin1", "indexOfChar", "([BIII)I"⟩ : MethodName)) hown (mvT hZ (hw _ (List.mem_of_getElem? (i := 239) rfl))) (mvT hZ (hw _ (List.mem_of_getElem? (i := 240) rfl))) (mvT hZ (hw _ (List.mem_of_getElem? (i := 79) rfl))) (mvT hZ (hw _ (List.mem_of_getElem? (i := 241) rfl))) (by decide) (backOf (W := 0) (rm_ixC l Z a0 hw [] t1 k1 ds h0 n0 Z0 q0 h31 hno) hZ (hw _ (List.mem_of_getElem? (i := 241) rfl)) (hw _ (List.mem_of_getElem? (i := 79) rfl)) (by decide) (by decide)) (g := (mkF m 33 #[.val (.ref t1), .val (.int (123 : Int32)), .val (.int (0 : Int32)), .val (.int (Int32.ofNat ds.length))] [(.int (Int32.ofNat ds.length)), (.int (0 : Int32)), (.int (123 : Int32)), (.ref t1)])) rfl (by rw [hml]; rfl) (argsL := [(.ref t1), (.int (123 : Int32)), (.int (0 : Int32)), (.int (Int32.ofNat ds.length))]) (rest := []) (lenOf pd_19 rfl) rfl (by show 2 * 0 + _ ≤ _; exact Nat.le_of_eq rfl) (hb hby d_jdk_43_method_22_code_33) (fun _ _ => ⟨rfl, e304, (by decide : 0 + 0 ≤ _), (by decide : 0 + 0 ≤ _)⟩)
    dsimp only [Pt.U, Pt.locs, Pt.cells, Pt.slots] at X306 l306 y306 z306 st306 hQ306
    subst l306 y306 z306
    obtain ⟨rfl, Nq306, K306⟩ := hQ306
    have N306 := Fr.app N304 Nq306
    obtain ⟨fs, hr, hrun, hended, hW, hsame⟩ := X306.leave (v := some (.int (-1 : Int32))) (fun h => by rw [Bd.returns] at h; cases h)
    refine ⟨_, _, pre305 _ ?_, hrun, hended, _, _, rfl, ?_, ⟨_, rfl⟩, hW, hsame.mono (by decide) (by decide)⟩
    · refine XS.icmpYes X304.here hx rfl (pc0 := 24) (pc' := 29) rfl (hb hby d_jdk_43_method_22_code_24) rfl (tlt ((own_inb (i := 0) (by omega) h31).2 : (0 : Int32) < (Int32.ofNat ds.length))).1 (by decide) (by decide) ?_
      show Steps p.tables e below (T304.setTop (mkF m 29 #[.val (.ref t1), .val (.int (123 : Int32)), .val (.int (0 : Int32)), .val (.int (Int32.ofNat ds.length))] [])) _
      refine XS.aloadN X304.here hx rfl (hb hby d_jdk_43_method_22_code_29) rfl rfl ?_
      show Steps p.tables e below (T304.setTop (mkF m 30 #[.val (.ref t1), .val (.int (123 : Int32)), .val (.int (0 : Int32)), .val (.int (Int32.ofNat ds.length))] [(.ref t1)])) _
      refine XS.iloadN X304.here hx rfl (hb hby d_jdk_43_method_22_code_30) rfl ?_
      show Steps p.tables e below (T304.setTop (mkF m 31 #[.val (.ref t1), .val (.int (123 : Int32)), .val (.int (0 : Int32)), .val (.int (Int32.ofNat ds.length))] [(.int (123 : Int32)), (.ref t1)])) _
      refine XS.iloadN X304.here hx rfl (hb hby d_jdk_43_method_22_code_31) rfl ?_
      show Steps p.tables e below (T304.setTop (mkF m 32 #[.val (.ref t1), .val (.int (123 : Int32)), .val (.int (0 : Int32)), .val (.int (Int32.ofNat ds.length))] [(.int (0 : Int32)), (.int (123 : Int32)), (.ref t1)])) _
      refine XS.iloadN X304.here hx rfl (hb hby d_jdk_43_method_22_code_32) rfl ?_
      show Steps p.tables e below (T304.setTop (mkF m 33 #[.val (.ref t1), .val (.int (123 : Int32)), .val (.int (0 : Int32)), .val (.int (Int32.ofNat ds.length))] [(.int (Int32.ofNat ds.length)), (.int (0 : Int32)), (.int (123 : Int32)), (.ref t1)])) _
      refine st306 _ ?_
      show Steps p.tables e below (T306.setTop (mkF m 36 #[.val (.ref t1), .val (.int (123 : Int32)), .val (.int (0 : Int32)), .val (.int (Int32.ofNat ds.length))] [(.int (-1 : Int32))])) _
      exact retI X306 hx Bd.returns (hb hby d_jdk_43_method_22_code_36) hr
    · show Q_ixL Z t1 k1 ds h0 n0 _ T306.heap _
      exact ⟨rfl, N306, ((Keep.refl h0 ([] : List Addr)).trans K306 all0)⟩
theorem d_jdk_42_method_154_code_0 : decode jdk_42_method_154_code 0 = .ok (.getstatic 38, 3) := by decide +kernel
theorem d_jdk_42_method_154_code_3 : decode jdk_42_method_154_code 3 = .ok (.ifCond .eq 14, 3) := by decide +kernel
theorem d_jdk_42_method_154_code_6 : decode jdk_42_method_154_code 6 = .ok (.aload_n 0, 1) := by decide +kernel
theorem d_jdk_42_method_154_code_7 : decode jdk_42_method_154_code 7 = .ok (.getfield 15, 3) := by decide +kernel
theorem d_jdk_42_method_154_code_10 : decode jdk_42_method_154_code 10 = .ok (.ifCond .ne 7, 3) := by decide +kernel
theorem d_jdk_42_method_154_code_13 : decode jdk_42_method_154_code 13 = .ok (.iconst 1, 1) := by decide +kernel
theorem d_jdk_42_method_154_code_14 : decode jdk_42_method_154_code 14 = .ok (.goto 4, 3) := by decide +kernel
theorem d_jdk_42_method_154_code_18 : decode jdk_42_method_154_code 18 = .ok (.ireturn, 1) := by decide +kernel
def Q_sLat (Z : State) (xs : Addr) (G : Int32) (h0 : Heap) (n0 : Nat) (v : Option Value) (h : Heap) (L : List Loc) : Prop := (v = some (.int (1 : Int32))) ∧ (Fr n0 L) ∧ (h = h0)
set_option maxRecDepth 65536 in
set_option maxHeartbeats 40000000 in
theorem rm_sLat (l : Launch) (Z : State) (a0 : Array Value) (hw : ∀ d ∈ tables_1, d.before a0 Z = true) (ws : List Jvm.Cond) (xs : Addr) (G : Int32) (h0 : Heap) (n0 : Nat) (Z0 : n0 ≤ h0.size) (q0 : Sta Z Z.heap "java/lang/String" "COMPACT_STRINGS" "Z" (.int G)) (hCS : ¬ (G = (0 : Int32))) (q2 : Old Z n0 h0) (q3 : Fld Z h0 xs "java/lang/String" "coder" "B" (.int (0 : Int32))) :
    MetFree l (⟨"java/lang/String", "isLatin1", "()Z"⟩ : MethodName) (head1 (Jvm.Cond.code (⟨"java/lang/String", "isLatin1", "()Z"⟩ : MethodName) jdk_42_method_154_code 1 (some .boolean) :: ws) ({ frames := 0, cells := 0, slots := 0, locals := 0 } : Room)) (fun a₁ U₁ => a₁ = #[(.ref xs)] ∧ Z.Warmed39 U₁.vm ∧ U₁.heap = h0) (fun _ _ _ _ _ => True) (fun _ U₁ o₁ U₂ => ∃ v₁ L₁, o₁ = .returned v₁ ∧ Q_sLat Z xs G h0 n0 v₁ U₂.heap L₁ ∧ FrameEnd U₁ o₁ U₂ L₁ ({ frames := 0, cells := 0, slots := 0, locals := 0 } : Room).cells ({ frames := 0, cells := 0, slots := 0, locals := 0 } : Room).slots) := by
  refine MetFree.of_bodySF (plainFor_of_name pn_1) hisR ?_
  intro p e s m args below meth c s₁ Bd hml0 hP hK
  obtain ⟨rfl, hZ, hh⟩ := hP
  have hx := Bd.exec
  have hby := Bd.bytes
  have hml : c.maxLocals = 1 := hml0
  have hown : s.vm.findClass "java/lang/String" = some m.cls := findClass_of_methodNamed Bd.named
  have hnm := (name_of_methodNamed Bd.named Bd.method).1
  have X0 : Stand p l e ({ frames := 0, cells := 0, slots := 0, locals := 0 } : Room) s m #[(.ref xs)] below meth c s₁ [] 0 0 := Stand.of_body Bd
  have e0 : s₁.heap = h0 := by rw [← hh, Bd.state]; rfl
  have N0 := Fr.nil n0
  have pre0 : ∀ t, Steps p.tables e below (s₁.setTop (mkF m 0 #[.val (.ref xs)] [])) t → Steps p.tables e below (s₁.setTop (entryFrame m #[(.ref xs)] 1)) t := fun t k => castTop (ef_1 m xs) k
  obtain ⟨T301, X301, e301, st301⟩ := getS2 X0 hx hZ hown (host := "") (Or.inl (hw _ (List.mem_of_getElem? (i := 29) rfl))) Via.refl e0 (q0.ext q2.2) (g := (mkF m 0 #[.val (.ref xs)] [])) rfl (hb hby d_jdk_42_method_154_code_0)
  obtain ⟨T302, X302, e302, st302⟩ := getF X301 hx hZ hown (host := "") (Or.inl (hw _ (List.mem_of_getElem? (i := 28) rfl))) Via.refl e301 q3 (g := (mkF m 7 #[.val (.ref xs)] [(.ref xs)])) rfl rfl (hb hby d_jdk_42_method_154_code_7)
  obtain ⟨fs, hr, hrun, hended, hW, hsame⟩ := X302.leave (v := some (.int (1 : Int32))) (fun h => by rw [Bd.returns] at h; cases h)
  refine ⟨_, _, pre0 _ ?_, hrun, hended, _, _, rfl, ?_, ⟨_, rfl⟩, hW, hsame.mono (by decide) (by decide)⟩
  · refine st301 _ ?_
    show Steps p.tables e below (T301.setTop (mkF m 3 #[.val (.ref xs)] [(.int G)])) _
    refine XS.ifNo X301.here hx rfl (hb hby d_jdk_42_method_154_code_3) rfl ((if0 _ _).trans (feq (hCS : ¬ (G = (0 : Int32)))).1) ?_
    show Steps p.tables e below (T301.setTop (mkF m 6 #[.val (.ref xs)] [])) _
    refine XS.aloadN X301.here hx rfl (hb hby d_jdk_42_method_154_code_6) rfl rfl ?_
    show Steps p.tables e below (T301.setTop (mkF m 7 #[.val (.ref xs)] [(.ref xs)])) _
    refine st302 _ ?_
    show Steps p.tables e below (T302.setTop (mkF m 10 #[.val (.ref xs)] [(.int (0 : Int32))])) _
    refine XS.ifNo X302.here hx rfl (hb hby d_jdk_42_method_154_code_10) rfl ((if0 _ _).trans (teq ((by decide) : (0 : Int32) = (0 : Int32))).2) ?_
    show Steps p.tables e below (T302.setTop (mkF m 13 #[.val (.ref xs)] [])) _
    refine XS.iconst X302.here hx rfl (hb hby d_jdk_42_method_154_code_13) ?_
    show Steps p.tables e below (T302.setTop (mkF m 14 #[.val (.ref xs)] [(.int (1 : Int32))])) _
    refine XS.goto X302.here hx rfl (pc0 := 14) (pc' := 18) rfl (hb hby d_jdk_42_method_154_code_14) (by decide) (by decide) ?_
    show Steps p.tables e below (T302.setTop (mkF m 18 #[.val (.ref xs)] [(.int (1 : Int32))])) _
    exact retN X302 hx (t := .boolean) Bd.returns (by simp) (hb hby d_jdk_42_method_154_code_18) hr
  · show Q_sLat Z xs G h0 n0 _ T302.heap _
    rw [e302]
    exact ⟨rfl, N0, rfl⟩
theorem d_jdk_42_method_80_code_0 : decode jdk_42_method_80_code 0 = .ok (.aload_n 0, 1) := by decide +kernel
theorem d_jdk_42_method_80_code_1 : decode jdk_42_method_80_code 1 = .ok (.invokevirtual 492, 3) := by decide +kernel
theorem d_jdk_42_method_80_code_4 : decode jdk_42_method_80_code 4 = .ok (.ifCond .eq 19, 3) := by decide +kernel
theorem d_jdk_42_method_80_code_7 : decode jdk_42_method_80_code 7 = .ok (.aload_n 0, 1) := by decide +kernel
theorem d_jdk_42_method_80_code_8 : decode jdk_42_method_80_code 8 = .ok (.getfield 9, 3) := by decide +kernel
theorem d_jdk_42_method_80_code_11 : decode jdk_42_method_80_code 11 = .ok (.iload_n 1, 1) := by decide +kernel
theorem d_jdk_42_method_80_code_12 : decode jdk_42_method_80_code 12 = .ok (.iload_n 2, 1) := by decide +kernel
theorem d_jdk_42_method_80_code_13 : decode jdk_42_method_80_code 13 = .ok (.aload_n 0, 1) := by decide +kernel
theorem d_jdk_42_method_80_code_14 : decode jdk_42_method_80_code 14 = .ok (.invokevirtual 505, 3) := by decide +kernel
theorem d_jdk_42_method_80_code_17 : decode jdk_42_method_80_code 17 = .ok (.invokestatic 637, 3) := by decide +kernel
theorem d_jdk_42_method_80_code_20 : decode jdk_42_method_80_code 20 = .ok (.goto 16, 3) := by decide +kernel
theorem d_jdk_42_method_80_code_36 : decode jdk_42_method_80_code 36 = .ok (.ireturn, 1) := by decide +kernel
def Q_ix2 (Z : State) (xs : Addr) (t1 : Addr) (k1 : ClassId) (ds : List Int32) (G : Int32) (h0 : Heap) (n0 : Nat) (v : Option Value) (h : Heap) (L : List Loc) : Prop := (v = some (.int (-1 : Int32))) ∧ (Fr n0 L) ∧ (Keep h0 h ([] : List Addr))
set_option maxRecDepth 65536 in
set_option maxHeartbeats 40000000 in
theorem rm_ix2 (l : Launch) (Z : State) (a0 : Array Value) (hw : ∀ d ∈ tables_1, d.before a0 Z = true) (ws : List Jvm.Cond) (xs : Addr) (t1 : Addr) (k1 : ClassId) (ds : List Int32) (G : Int32) (h0 : Heap) (n0 : Nat) (Z0 : n0 ≤ h0.size) (q0 : Sta Z Z.heap "java/lang/String" "COMPACT_STRINGS" "Z" (.int G)) (hCS : ¬ (G = (0 : Int32))) (q2 : Old Z n0 h0) (q3 : Exa Z h0 xs "java/lang/String") (q4 : Fld Z h0 xs "java/lang/String" "value" "[B" (.ref t1)) (q5 : Fld Z h0 xs "java/lang/String" "coder" "B" (.int (0 : Int32))) (q6 : Arv Z h0 t1 k1 .byte (Int32.ofNat ds.length) (own_bs ds) (.int 0)) (hcd1 : StrChars.Road.CodA ds 0 (Int32.ofNat ds.length) (own_bs ds)) (hbd1 : ∀ c ∈ ds, ¬ c < 0 ∧ ¬ (65535 : Int32) < c) (hle1 : ds.length ≤ 4000) (hno : ∀ c ∈ ds, own_L c ∧ ¬ c = (123 : Int32)) :
    MetFree l (⟨"java/lang/String", "indexOf", "(II)I"⟩ : MethodName) (head1 (Jvm.Cond.code (⟨"java/lang/String", "indexOf", "(II)I"⟩ : MethodName) jdk_42_method_80_code 3 (some .int) :: ws) ({ frames := 2, cells := 0, slots := 0, locals := 32 } : Room)) (fun a₁ U₁ => a₁ = #[(.ref xs), (.int (123 : Int32)), (.int (0 : Int32))] ∧ Z.Warmed39 U₁.vm ∧ U₁.heap = h0) (fun _ _ _ _ _ => True) (fun _ U₁ o₁ U₂ => ∃ v₁ L₁, o₁ = .returned v₁ ∧ Q_ix2 Z xs t1 k1 ds G h0 n0 v₁ U₂.heap L₁ ∧ FrameEnd U₁ o₁ U₂ L₁ ({ frames := 2, cells := 0, slots := 0, locals := 32 } : Room).cells ({ frames := 2, cells := 0, slots := 0, locals := 32 } : Room).slots) := by
  refine MetFree.of_bodySF (plainFor_of_name pn_1) hisR ?_
  intro p e s m args below meth c s₁ Bd hml0 hP hK
  obtain ⟨rfl, hZ, hh⟩ := hP
  have hx := Bd.exec
  have hby := Bd.bytes
  have hml : c.maxLocals = 3 := hml0
  have hown : s.vm.findClass "java/lang/String" = some m.cls := findClass_of_methodNamed Bd.named
  have hnm := (name_of_methodNamed Bd.named Bd.method).1
  have X0 : Stand p l e ({ frames := 2, cells := 0, slots := 0, locals := 32 } : Room) s m #[(.ref xs), (.int (123 : Int32)), (.int (0 : Int32))] below meth c s₁ [] 0 0 := Stand.of_body Bd
  have e0 : s₁.heap = h0 := by rw [← hh, Bd.state]; rfl
  have N0 := Fr.nil n0
  have pre0 : ∀ t, Steps p.tables e below (s₁.setTop (mkF m 0 #[.val (.ref xs), .val (.int (123 : Int32)), .val (.int (0 : Int32))] [])) t → Steps p.tables e below (s₁.setTop (entryFrame m #[(.ref xs), (.int (123 : Int32)), (.int (0 : Int32))] 3)) t := fun t k => castTop (ef_10 m xs (123 : Int32) (0 : Int32)) k
  obtain ⟨cq301, kq301, q301a, q301b, q301c⟩ := isOf hZ e0 q3
  obtain ⟨_, _, ⟨T301, L301, k301, n301⟩, -, X301, ⟨Lc301, hQ301, l301, y301, z301⟩, st301⟩ := X0.virtualBack hx (y := (⟨"java/lang/String", "isLatin1", "()Z"⟩ : MethodName)) (z := (⟨"java/lang/String", "isLatin1", "()Z"⟩ : MethodName)) hown (mvT hZ (hw _ (List.mem_of_getElem? (i := 62) rfl))) (mvT hZ (hw _ (List.mem_of_getElem? (i := 63) rfl))) (notFace_of_selects (args := #[]) (mvT hZ (hw _ (List.mem_of_getElem? (i := 65) rfl)))) (mvT hZ (hw _ (List.mem_of_getElem? (i := 65) rfl))) (mvT hZ (hw _ (List.mem_of_getElem? (i := 64) rfl))) (by decide) (backOf (W := 0) (rm_sLat l Z a0 hw [] xs G h0 n0 Z0 q0 hCS q2 q5) hZ (hw _ (List.mem_of_getElem? (i := 66) rfl)) (hw _ (List.mem_of_getElem? (i := 10) rfl)) (by decide) (by decide)) q301a q301c (g := (mkF m 1 #[.val (.ref xs), .val (.int (123 : Int32)), .val (.int (0 : Int32))] [(.ref xs)])) rfl (by rw [hml]; rfl) (Steps.refl _) (argsL := []) (rest := []) (lenOf pd_7 rfl) rfl (by show 2 * 0 + _ ≤ _; exact Nat.le_of_eq rfl) (hb hby d_jdk_42_method_80_code_1) (fun _ _ => ⟨rfl, e0, (by decide : 0 + 0 ≤ _), (by decide : 0 + 0 ≤ _)⟩)
  dsimp only [Pt.U, Pt.locs, Pt.cells, Pt.slots] at X301 l301 y301 z301 st301 hQ301
  subst l301 y301 z301
  obtain ⟨rfl, Nq301, e301⟩ := hQ301
  have N301 := Fr.app N0 Nq301
  obtain ⟨T302, X302, e302, st302⟩ := getF X301 hx hZ hown (host := "") (Or.inl (hw _ (List.mem_of_getElem? (i := 27) rfl))) Via.refl e301 q4 (g := (mkF m 8 #[.val (.ref xs), .val (.int (123 : Int32)), .val (.int (0 : Int32))] [(.ref xs)])) rfl rfl (hb hby d_jdk_42_method_80_code_8)
  obtain ⟨cq303, kq303, q303a, q303b, q303c⟩ := isOf hZ e302 q3
  obtain ⟨_, _, ⟨T303, L303, k303, n303⟩, -, X303, ⟨Lc303, hQ303, l303, y303, z303⟩, st303⟩ := X302.virtualBack hx (y := (⟨"java/lang/String", "length", "()I"⟩ : MethodName)) (z := (⟨"java/lang/String", "length", "()I"⟩ : MethodName)) hown (mvT hZ (hw _ (List.mem_of_getElem? (i := 67) rfl))) (mvT hZ (hw _ (List.mem_of_getElem? (i := 68) rfl))) (notFace_of_selects (args := #[]) (mvT hZ (hw _ (List.mem_of_getElem? (i := 70) rfl)))) (mvT hZ (hw _ (List.mem_of_getElem? (i := 70) rfl))) (mvT hZ (hw _ (List.mem_of_getElem? (i := 69) rfl))) (by decide) (StrChars.Road.lenW (W := 3) hZ (own_hw_lenW hw) (kI := 4) (hw _ (List.mem_of_getElem? (i := 9) rfl)) q3 q4 q5 q6 hcd1 hbd1 (q0.ext q2.2) hCS hle1 (by decide) (by decide)) q303a q303c (g := (mkF m 14 #[.val (.ref xs), .val (.int (123 : Int32)), .val (.int (0 : Int32))] [(.ref xs), (.int (0 : Int32)), (.int (123 : Int32)), (.ref t1)])) rfl (by rw [hml]; rfl) (Steps.refl _) (argsL := []) (rest := [(.int (0 : Int32)), (.int (123 : Int32)), (.ref t1)]) (lenOf pd_0 rfl) rfl (by show 2 * 0 + _ ≤ _; exact Nat.le_of_eq rfl) (hb hby d_jdk_42_method_80_code_14) (fun _ _ => ⟨rfl, e302, (by decide : 0 + 0 ≤ _), (by decide : 0 + 0 ≤ _)⟩)
  dsimp only [Pt.U, Pt.locs, Pt.cells, Pt.slots] at X303 l303 y303 z303 st303 hQ303
  subst l303 y303 z303
  obtain ⟨rfl, rfl, e303⟩ := hQ303
  have N303 := Fr.app N301 (Fr.nil n0)
  obtain ⟨_, _, ⟨T304, L304, k304, n304⟩, -, X304, ⟨Lc304, hQ304, l304, y304, z304⟩, st304⟩ := Jvm.LawKit.callS X303 hx (y := (⟨"java/lang/StringLatin1", "indexOf", "([BIII)I"⟩ : MethodName)) hown (mvT hZ (hw _ (List.mem_of_getElem? (i := 77) rfl))) (mvT hZ (hw _ (List.mem_of_getElem? (i := 78) rfl))) (mvT hZ (hw _ (List.mem_of_getElem? (i := 79) rfl))) (mvT hZ (hw _ (List.mem_of_getElem? (i := 80) rfl))) (by decide) (backOf (W := 0) (rm_ixL l Z a0 hw [] t1 k1 ds h0 n0 Z0 q6 (by omega) hno) hZ (hw _ (List.mem_of_getElem? (i := 80) rfl)) (hw _ (List.mem_of_getElem? (i := 79) rfl)) (by decide) (by decide)) (g := (mkF m 17 #[.val (.ref xs), .val (.int (123 : Int32)), .val (.int (0 : Int32))] [(.int (Int32.ofNat ds.length)), (.int (0 : Int32)), (.int (123 : Int32)), (.ref t1)])) rfl (by rw [hml]; rfl) (argsL := [(.ref t1), (.int (123 : Int32)), (.int (0 : Int32)), (.int (Int32.ofNat ds.length))]) (rest := []) (lenOf pd_19 rfl) rfl (by show 2 * 0 + _ ≤ _; exact Nat.le_of_eq rfl) (hb hby d_jdk_42_method_80_code_17) (fun _ _ => ⟨rfl, e303, (by decide : 0 + 0 ≤ _), (by decide : 0 + 0 ≤ _)⟩)
  dsimp only [Pt.U, Pt.locs, Pt.cells, Pt.slots] at X304 l304 y304 z304 st304 hQ304
  subst l304 y304 z304
  obtain ⟨rfl, Nq304, K304⟩ := hQ304
  have N304 := Fr.app N303 Nq304
  obtain ⟨fs, hr, hrun, hended, hW, hsame⟩ := X304.leave (v := some (.int (-1 : Int32))) (fun h => by rw [Bd.returns] at h; cases h)
  refine ⟨_, _, pre0 _ ?_, hrun, hended, _, _, rfl, ?_, ⟨_, rfl⟩, hW, hsame.mono (by decide) (by decide)⟩
  · refine XS.aloadN X0.here hx rfl (hb hby d_jdk_42_method_80_code_0) rfl rfl ?_
    show Steps p.tables e below (s₁.setTop (mkF m 1 #[.val (.ref xs), .val (.int (123 : Int32)), .val (.int (0 : Int32))] [(.ref xs)])) _
    refine st301.trans ?_
    show Steps p.tables e below (T301.setTop (mkF m 4 #[.val (.ref xs), .val (.int (123 : Int32)), .val (.int (0 : Int32))] [(.int (1 : Int32))])) _
    refine XS.ifNo X301.here hx rfl (hb hby d_jdk_42_method_80_code_4) rfl ((if0 _ _).trans (feq ((by decide) : ¬ ((1 : Int32) = (0 : Int32)))).1) ?_
    show Steps p.tables e below (T301.setTop (mkF m 7 #[.val (.ref xs), .val (.int (123 : Int32)), .val (.int (0 : Int32))] [])) _
    refine XS.aloadN X301.here hx rfl (hb hby d_jdk_42_method_80_code_7) rfl rfl ?_
    show Steps p.tables e below (T301.setTop (mkF m 8 #[.val (.ref xs), .val (.int (123 : Int32)), .val (.int (0 : Int32))] [(.ref xs)])) _
    refine st302 _ ?_
    show Steps p.tables e below (T302.setTop (mkF m 11 #[.val (.ref xs), .val (.int (123 : Int32)), .val (.int (0 : Int32))] [(.ref t1)])) _
    refine XS.iloadN X302.here hx rfl (hb hby d_jdk_42_method_80_code_11) rfl ?_
    show Steps p.tables e below (T302.setTop (mkF m 12 #[.val (.ref xs), .val (.int (123 : Int32)), .val (.int (0 : Int32))] [(.int (123 : Int32)), (.ref t1)])) _
    refine XS.iloadN X302.here hx rfl (hb hby d_jdk_42_method_80_code_12) rfl ?_
    show Steps p.tables e below (T302.setTop (mkF m 13 #[.val (.ref xs), .val (.int (123 : Int32)), .val (.int (0 : Int32))] [(.int (0 : Int32)), (.int (123 : Int32)), (.ref t1)])) _
    refine XS.aloadN X302.here hx rfl (hb hby d_jdk_42_method_80_code_13) rfl rfl ?_
    show Steps p.tables e below (T302.setTop (mkF m 14 #[.val (.ref xs), .val (.int (123 : Int32)), .val (.int (0 : Int32))] [(.ref xs), (.int (0 : Int32)), (.int (123 : Int32)), (.ref t1)])) _
    refine st303.trans ?_
    show Steps p.tables e below (T303.setTop (mkF m 17 #[.val (.ref xs), .val (.int (123 : Int32)), .val (.int (0 : Int32))] [(.int (Int32.ofNat ds.length)), (.int (0 : Int32)), (.int (123 : Int32)), (.ref t1)])) _
    refine st304 _ ?_
    show Steps p.tables e below (T304.setTop (mkF m 20 #[.val (.ref xs), .val (.int (123 : Int32)), .val (.int (0 : Int32))] [(.int (-1 : Int32))])) _
    refine XS.goto X304.here hx rfl (pc0 := 20) (pc' := 36) rfl (hb hby d_jdk_42_method_80_code_20) (by decide) (by decide) ?_
    show Steps p.tables e below (T304.setTop (mkF m 36 #[.val (.ref xs), .val (.int (123 : Int32)), .val (.int (0 : Int32))] [(.int (-1 : Int32))])) _
    exact retI X304 hx Bd.returns (hb hby d_jdk_42_method_80_code_36) hr
  · show Q_ix2 Z xs t1 k1 ds G h0 n0 _ T304.heap _
    exact ⟨rfl, N304, ((Keep.refl h0 ([] : List Addr)).trans K304 all0)⟩
theorem d_jdk_42_method_79_code_0 : decode jdk_42_method_79_code 0 = .ok (.aload_n 0, 1) := by decide +kernel
theorem d_jdk_42_method_79_code_1 : decode jdk_42_method_79_code 1 = .ok (.iload_n 1, 1) := by decide +kernel
theorem d_jdk_42_method_79_code_2 : decode jdk_42_method_79_code 2 = .ok (.iconst 0, 1) := by decide +kernel
theorem d_jdk_42_method_79_code_3 : decode jdk_42_method_79_code 3 = .ok (.invokevirtual 633, 3) := by decide +kernel
theorem d_jdk_42_method_79_code_6 : decode jdk_42_method_79_code 6 = .ok (.ireturn, 1) := by decide +kernel
def Q_ix1 (Z : State) (xs : Addr) (t1 : Addr) (k1 : ClassId) (ds : List Int32) (G : Int32) (h0 : Heap) (n0 : Nat) (v : Option Value) (h : Heap) (L : List Loc) : Prop := (v = some (.int (-1 : Int32))) ∧ (Fr n0 L) ∧ (Keep h0 h ([] : List Addr))
set_option maxRecDepth 65536 in
set_option maxHeartbeats 40000000 in
theorem rm_ix1 (l : Launch) (Z : State) (a0 : Array Value) (hw : ∀ d ∈ tables_1, d.before a0 Z = true) (ws : List Jvm.Cond) (xs : Addr) (t1 : Addr) (k1 : ClassId) (ds : List Int32) (G : Int32) (h0 : Heap) (n0 : Nat) (Z0 : n0 ≤ h0.size) (q0 : Sta Z Z.heap "java/lang/String" "COMPACT_STRINGS" "Z" (.int G)) (hCS : ¬ (G = (0 : Int32))) (q2 : Old Z n0 h0) (q3 : Exa Z h0 xs "java/lang/String") (q4 : Fld Z h0 xs "java/lang/String" "value" "[B" (.ref t1)) (q5 : Fld Z h0 xs "java/lang/String" "coder" "B" (.int (0 : Int32))) (q6 : Arv Z h0 t1 k1 .byte (Int32.ofNat ds.length) (own_bs ds) (.int 0)) (hcd1 : StrChars.Road.CodA ds 0 (Int32.ofNat ds.length) (own_bs ds)) (hbd1 : ∀ c ∈ ds, ¬ c < 0 ∧ ¬ (65535 : Int32) < c) (hle1 : ds.length ≤ 4000) (hno : ∀ c ∈ ds, own_L c ∧ ¬ c = (123 : Int32)) :
    MetFree l (⟨"java/lang/String", "indexOf", "(I)I"⟩ : MethodName) (head1 (Jvm.Cond.code (⟨"java/lang/String", "indexOf", "(I)I"⟩ : MethodName) jdk_42_method_79_code 2 (some .int) :: ws) ({ frames := 3, cells := 0, slots := 0, locals := 46 } : Room)) (fun a₁ U₁ => a₁ = #[(.ref xs), (.int (123 : Int32))] ∧ Z.Warmed39 U₁.vm ∧ U₁.heap = h0) (fun _ _ _ _ _ => True) (fun _ U₁ o₁ U₂ => ∃ v₁ L₁, o₁ = .returned v₁ ∧ Q_ix1 Z xs t1 k1 ds G h0 n0 v₁ U₂.heap L₁ ∧ FrameEnd U₁ o₁ U₂ L₁ ({ frames := 3, cells := 0, slots := 0, locals := 46 } : Room).cells ({ frames := 3, cells := 0, slots := 0, locals := 46 } : Room).slots) := by
  refine MetFree.of_bodySF (plainFor_of_name pn_1) hisR ?_
  intro p e s m args below meth c s₁ Bd hml0 hP hK
  obtain ⟨rfl, hZ, hh⟩ := hP
  have hx := Bd.exec
  have hby := Bd.bytes
  have hml : c.maxLocals = 2 := hml0
  have hown : s.vm.findClass "java/lang/String" = some m.cls := findClass_of_methodNamed Bd.named
  have hnm := (name_of_methodNamed Bd.named Bd.method).1
  have X0 : Stand p l e ({ frames := 3, cells := 0, slots := 0, locals := 46 } : Room) s m #[(.ref xs), (.int (123 : Int32))] below meth c s₁ [] 0 0 := Stand.of_body Bd
  have e0 : s₁.heap = h0 := by rw [← hh, Bd.state]; rfl
  have N0 := Fr.nil n0
  have pre0 : ∀ t, Steps p.tables e below (s₁.setTop (mkF m 0 #[.val (.ref xs), .val (.int (123 : Int32))] [])) t → Steps p.tables e below (s₁.setTop (entryFrame m #[(.ref xs), (.int (123 : Int32))] 2)) t := fun t k => castTop (ef_2 m xs (123 : Int32)) k
  obtain ⟨cq301, kq301, q301a, q301b, q301c⟩ := isOf hZ e0 q3
  obtain ⟨_, _, ⟨T301, L301, k301, n301⟩, -, X301, ⟨Lc301, hQ301, l301, y301, z301⟩, st301⟩ := X0.virtualBack hx (y := (⟨"java/lang/String", "indexOf", "(II)I"⟩ : MethodName)) (z := (⟨"java/lang/String", "indexOf", "(II)I"⟩ : MethodName)) hown (mvT hZ (hw _ (List.mem_of_getElem? (i := 57) rfl))) (mvT hZ (hw _ (List.mem_of_getElem? (i := 58) rfl))) (notFace_of_selects (args := #[]) (mvT hZ (hw _ (List.mem_of_getElem? (i := 60) rfl)))) (mvT hZ (hw _ (List.mem_of_getElem? (i := 60) rfl))) (mvT hZ (hw _ (List.mem_of_getElem? (i := 59) rfl))) (by decide) (backOf (W := 0) (rm_ix2 l Z a0 hw [] xs t1 k1 ds G h0 n0 Z0 q0 hCS q2 q3 q4 q5 q6 hcd1 hbd1 hle1 hno) hZ (hw _ (List.mem_of_getElem? (i := 61) rfl)) (hw _ (List.mem_of_getElem? (i := 10) rfl)) (by decide) (by decide)) q301a q301c (g := (mkF m 3 #[.val (.ref xs), .val (.int (123 : Int32))] [(.int (0 : Int32)), (.int (123 : Int32)), (.ref xs)])) rfl (by rw [hml]; rfl) (Steps.refl _) (argsL := [(.int (123 : Int32)), (.int (0 : Int32))]) (rest := []) (lenOf pd_11 rfl) rfl (by show 2 * 0 + _ ≤ _; exact Nat.le_of_eq rfl) (hb hby d_jdk_42_method_79_code_3) (fun _ _ => ⟨rfl, e0, (by decide : 0 + 0 ≤ _), (by decide : 0 + 0 ≤ _)⟩)
  dsimp only [Pt.U, Pt.locs, Pt.cells, Pt.slots] at X301 l301 y301 z301 st301 hQ301
  subst l301 y301 z301
  obtain ⟨rfl, Nq301, K301⟩ := hQ301
  have N301 := Fr.app N0 Nq301
  obtain ⟨fs, hr, hrun, hended, hW, hsame⟩ := X301.leave (v := some (.int (-1 : Int32))) (fun h => by rw [Bd.returns] at h; cases h)
  refine ⟨_, _, pre0 _ ?_, hrun, hended, _, _, rfl, ?_, ⟨_, rfl⟩, hW, hsame.mono (by decide) (by decide)⟩
  · refine XS.aloadN X0.here hx rfl (hb hby d_jdk_42_method_79_code_0) rfl rfl ?_
    show Steps p.tables e below (s₁.setTop (mkF m 1 #[.val (.ref xs), .val (.int (123 : Int32))] [(.ref xs)])) _
    refine XS.iloadN X0.here hx rfl (hb hby d_jdk_42_method_79_code_1) rfl ?_
    show Steps p.tables e below (s₁.setTop (mkF m 2 #[.val (.ref xs), .val (.int (123 : Int32))] [(.int (123 : Int32)), (.ref xs)])) _
    refine XS.iconst X0.here hx rfl (hb hby d_jdk_42_method_79_code_2) ?_
    show Steps p.tables e below (s₁.setTop (mkF m 3 #[.val (.ref xs), .val (.int (123 : Int32))] [(.int (0 : Int32)), (.int (123 : Int32)), (.ref xs)])) _
    refine st301.trans ?_
    show Steps p.tables e below (T301.setTop (mkF m 6 #[.val (.ref xs), .val (.int (123 : Int32))] [(.int (-1 : Int32))])) _
    exact retI X301 hx Bd.returns (hb hby d_jdk_42_method_79_code_6) hr
  · show Q_ix1 Z xs t1 k1 ds G h0 n0 _ T301.heap _
    exact ⟨rfl, N301, ((Keep.refl h0 ([] : List Addr)).trans K301 all0)⟩
theorem d_jdk_31_method_11_code_0 : decode jdk_31_method_11_code 0 = .ok (.aload_n 0, 1) := by decide +kernel
theorem d_jdk_31_method_11_code_1 : decode jdk_31_method_11_code 1 = .ok (.ifnonnull 12, 3) := by decide +kernel
theorem d_jdk_31_method_11_code_13 : decode jdk_31_method_11_code 13 = .ok (.aload_n 0, 1) := by decide +kernel
theorem d_jdk_31_method_11_code_14 : decode jdk_31_method_11_code 14 = .ok (.areturn, 1) := by decide +kernel
theorem pn_6 : plainName "java/util/Objects" = true := by first | (simp [plainName, overriddenIn]; done) | decide +kernel
def Q_rnn (Z : State) (xa : Addr) (xd : Addr) (h0 : Heap) (n0 : Nat) (v : Option Value) (h : Heap) (L : List Loc) : Prop := (v = some (.ref xa)) ∧ (Fr n0 L) ∧ (h = h0)
set_option maxRecDepth 65536 in
set_option maxHeartbeats 40000000 in
theorem rm_rnn (l : Launch) (Z : State) (a0 : Array Value) (hw : ∀ d ∈ tables_1, d.before a0 Z = true) (ws : List Jvm.Cond) (xa : Addr) (xd : Addr) (h0 : Heap) (n0 : Nat) (Z0 : n0 ≤ h0.size) :
    MetFree l (⟨"java/util/Objects", "requireNonNull", "(Ljava/lang/Object;Ljava/lang/String;)Ljava/lang/Object;"⟩ : MethodName) (head1 (Jvm.Cond.code (⟨"java/util/Objects", "requireNonNull", "(Ljava/lang/Object;Ljava/lang/String;)Ljava/lang/Object;"⟩ : MethodName) jdk_31_method_11_code 2 (some (.object "java/lang/Object")) :: ws) ({ frames := 0, cells := 0, slots := 0, locals := 0 } : Room)) (fun a₁ U₁ => a₁ = #[(.ref xa), (.ref xd)] ∧ Z.Warmed39 U₁.vm ∧ U₁.heap = h0) (fun _ _ _ _ _ => True) (fun _ U₁ o₁ U₂ => ∃ v₁ L₁, o₁ = .returned v₁ ∧ Q_rnn Z xa xd h0 n0 v₁ U₂.heap L₁ ∧ FrameEnd U₁ o₁ U₂ L₁ ({ frames := 0, cells := 0, slots := 0, locals := 0 } : Room).cells ({ frames := 0, cells := 0, slots := 0, locals := 0 } : Room).slots) := by
  refine MetFree.of_bodySF (plainFor_of_name pn_6) hisR ?_
  intro p e s m args below meth c s₁ Bd hml0 hP hK
  obtain ⟨rfl, hZ, hh⟩ := hP
  have hx := Bd.exec
  have hby := Bd.bytes
  have hml : c.maxLocals = 2 := hml0
  have hown : s.vm.findClass "java/util/Objects" = some m.cls := findClass_of_methodNamed Bd.named
  have hnm := (name_of_methodNamed Bd.named Bd.method).1
  have X0 : Stand p l e ({ frames := 0, cells := 0, slots := 0, locals := 0 } : Room) s m #[(.ref xa), (.ref xd)] below meth c s₁ [] 0 0 := Stand.of_body Bd
  have e0 : s₁.heap = h0 := by rw [← hh, Bd.state]; rfl
  have N0 := Fr.nil n0
  have pre0 : ∀ t, Steps p.tables e below (s₁.setTop (mkF m 0 #[.val (.ref xa), .val (.ref xd)] [])) t → Steps p.tables e below (s₁.setTop (entryFrame m #[(.ref xa), (.ref xd)] 2)) t := fun t k => castTop (ef_5 m xa xd) k
  obtain ⟨fs, hr, hrun, hended, hW, hsame⟩ := X0.leave (v := some (.ref xa)) (fun h => by rw [Bd.returns] at h; cases h)
  refine ⟨_, _, pre0 _ ?_, hrun, hended, _, _, rfl, ?_, ⟨_, rfl⟩, hW, hsame.mono (by decide) (by decide)⟩
  · refine XS.aloadN X0.here hx rfl (hb hby d_jdk_31_method_11_code_0) rfl rfl ?_
    show Steps p.tables e below (s₁.setTop (mkF m 1 #[.val (.ref xa), .val (.ref xd)] [(.ref xa)])) _
    refine XS.ifnonnullYes X0.here hx rfl (pc0 := 1) (pc' := 13) rfl (hb hby d_jdk_31_method_11_code_1) rfl (by decide) (by decide) ?_
    show Steps p.tables e below (s₁.setTop (mkF m 13 #[.val (.ref xa), .val (.ref xd)] [])) _
    refine XS.aloadN X0.here hx rfl (hb hby d_jdk_31_method_11_code_13) rfl rfl ?_
    show Steps p.tables e below (s₁.setTop (mkF m 14 #[.val (.ref xa), .val (.ref xd)] [(.ref xa)])) _
    jvm_step X0.here [X0.here.top, hx, (hb hby d_jdk_31_method_11_code_14), X0.method', Bd.returns, Value.isRef, FieldType.isReference]
    first | (intro acts; rw [hr _ acts rfl rfl rfl]) | rw [hr _ _ rfl rfl rfl]
    exact Steps.refl _
  · show Q_rnn Z xa xd h0 n0 _ s₁.heap _
    rw [e0]
    exact ⟨rfl, N0, rfl⟩
theorem d_prog_7_method_1_code_0 : decode prog_7_method_1_code 0 = .ok (.aload_n 0, 1) := by decide +kernel
theorem d_prog_7_method_1_code_1 : decode prog_7_method_1_code 1 = .ok (.invokespecial 1, 3) := by decide +kernel
theorem d_prog_7_method_1_code_4 : decode prog_7_method_1_code 4 = .ok (.aload_n 1, 1) := by decide +kernel
theorem d_prog_7_method_1_code_5 : decode prog_7_method_1_code 5 = .ok (.ldc 7, 2) := by decide +kernel
theorem d_prog_7_method_1_code_7 : decode prog_7_method_1_code 7 = .ok (.invokestatic 9, 3) := by decide +kernel
theorem pd_20 : parseMethodDescriptor "(Ljava/lang/Object;Ljava/lang/String;)Ljava/lang/Object;" = some ⟨[(.object "java/lang/Object"), (.object "java/lang/String")], some (.object "java/lang/Object")⟩ := by decide +kernel
theorem d_prog_7_method_1_code_10 : decode prog_7_method_1_code 10 = .ok (.pop, 1) := by decide +kernel
theorem d_prog_7_method_1_code_11 : decode prog_7_method_1_code 11 = .ok (.aload_n 1, 1) := by decide +kernel
theorem d_prog_7_method_1_code_12 : decode prog_7_method_1_code 12 = .ok (.bipush 123, 2) := by decide +kernel
theorem d_prog_7_method_1_code_14 : decode prog_7_method_1_code 14 = .ok (.invokevirtual 15, 3) := by decide +kernel
theorem pd_21 : parseMethodDescriptor "(I)I" = some ⟨[.int], some .int⟩ := by decide +kernel
theorem d_prog_7_method_1_code_17 : decode prog_7_method_1_code 17 = .ok (.ifCond .lt 30, 3) := by decide +kernel
theorem d_prog_7_method_1_code_47 : decode prog_7_method_1_code 47 = .ok (.aload_n 0, 1) := by decide +kernel
theorem d_prog_7_method_1_code_48 : decode prog_7_method_1_code 48 = .ok (.aload_n 1, 1) := by decide +kernel
theorem d_prog_7_method_1_code_49 : decode prog_7_method_1_code 49 = .ok (.putfield 39, 3) := by decide +kernel
theorem d_prog_7_method_1_code_52 : decode prog_7_method_1_code 52 = .ok (.return_, 1) := by decide +kernel
theorem pn_7 : plainName "com/example/holdfast/holdfast/redis/LockKeys" = true := by first | (simp [plainName, overriddenIn]; done) | decide +kernel
def Q_lkI (Z : State) (xl : Addr) (xs : Addr) (t1 : Addr) (k1 : ClassId) (ds : List Int32) (G : Int32) (h0 : Heap) (n0 : Nat) (v : Option Value) (h : Heap) (L : List Loc) : Prop := (v = none) ∧ (Fr n0 L) ∧ (Keep h0 h ([xl] : List Addr)) ∧ (Fld Z h xl "com/example/holdfast/holdfast/redis/LockKeys" "_prefix" "Ljava/lang/String;" (.ref xs))
set_option maxRecDepth 65536 in
set_option maxHeartbeats 40000000 in
theorem rm_lkI (l : Launch) (Z : State) (a0 : Array Value) (hw : ∀ d ∈ tables_1, d.before a0 Z = true) (ws : List Jvm.Cond) (xl : Addr) (xs : Addr) (t1 : Addr) (k1 : ClassId) (ds : List Int32) (G : Int32) (h0 : Heap) (n0 : Nat) (Z0 : n0 ≤ h0.size) (q0 : Sta Z Z.heap "java/lang/String" "COMPACT_STRINGS" "Z" (.int G)) (hCS : ¬ (G = (0 : Int32))) (q2 : Old Z n0 h0) (q3 : Exa Z h0 xs "java/lang/String") (q4 : Fld Z h0 xs "java/lang/String" "value" "[B" (.ref t1)) (q5 : Fld Z h0 xs "java/lang/String" "coder" "B" (.int (0 : Int32))) (q6 : Arv Z h0 t1 k1 .byte (Int32.ofNat ds.length) (own_bs ds) (.int 0)) (hcd1 : StrChars.Road.CodA ds 0 (Int32.ofNat ds.length) (own_bs ds)) (hbd1 : ∀ c ∈ ds, ¬ c < 0 ∧ ¬ (65535 : Int32) < c) (hle1 : ds.length ≤ 4000) (hno : ∀ c ∈ ds, own_L c ∧ ¬ c = (123 : Int32)) (q11 : Exa Z h0 xl "com/example/holdfast/holdfast/redis/LockKeys") (q12 : Fld Z h0 xl "com/example/holdfast/holdfast/redis/LockKeys" "_prefix" "Ljava/lang/String;" .null) (q13 : n0 ≤ xl) (q14 : xs ≠ xl) (q15 : t1 ≠ xl) :
    MetFree l (⟨"com/example/holdfast/holdfast/redis/LockKeys", "<init>", "(Ljava/lang/String;)V"⟩ : MethodName) (head1 (Jvm.Cond.code (⟨"com/example/holdfast/holdfast/redis/LockKeys", "<init>", "(Ljava/lang/String;)V"⟩ : MethodName) prog_7_method_1_code 2 none :: ws) ({ frames := 4, cells := 2, slots := 28, locals := 59 } : Room)) (fun a₁ U₁ => a₁ = #[(.ref xl), (.ref xs)] ∧ Z.Warmed39 U₁.vm ∧ U₁.heap = h0 ∧ CHv Z [("java/lang/String", 7)] U₁.vm h0) (fun _ _ _ _ _ => True) (fun _ U₁ o₁ U₂ => ∃ v₁ L₁, o₁ = .returned v₁ ∧ Q_lkI Z xl xs t1 k1 ds G h0 n0 v₁ U₂.heap L₁ ∧ CHr Z [("java/lang/String", 7)] U₁.vm U₁.heap U₂.vm U₂.heap ∧ ReturnedEndW U₁ o₁ U₂ L₁ ({ frames := 4, cells := 2, slots := 28, locals := 59 } : Room).cells ({ frames := 4, cells := 2, slots := 28, locals := 59 } : Room).slots) := by
  refine MetFree.of_bodySF (plainFor_of_name pn_7) hisR ?_
  intro p e s m args below meth c s₁ Bd hml0 hP hK
  obtain ⟨rfl, hZ, hh, CH0⟩ := hP
  have hx := Bd.exec
  have hby := Bd.bytes
  have hml : c.maxLocals = 2 := hml0
  have hown : s.vm.findClass "com/example/holdfast/holdfast/redis/LockKeys" = some m.cls := findClass_of_methodNamed Bd.named
  have hnm := (name_of_methodNamed Bd.named Bd.method).1
  have X0 : Stand p l e ({ frames := 4, cells := 2, slots := 28, locals := 59 } : Room) (s.setVm s.vm) m #[(.ref xl), (.ref xs)] below meth c s₁ [] 0 0 := Stand.of_body Bd
  have e0 : s₁.heap = h0 := by rw [← hh, Bd.state]; rfl
  have N0 := Fr.nil n0
  have hZ0 : Z.Warmed39 (s.setVm s.vm).vm := hZ
  have hown0 : (s.setVm s.vm).vm.findClass "com/example/holdfast/holdfast/redis/LockKeys" = some m.cls := hown
  have hS0 : s.Since s.vm h0.size := (State.WarmedH.refl s).since _
  have hk0 : h0.size ≤ h0.size := Nat.le_refl _
  have CR0 : CHr Z [("java/lang/String", 7)] s.vm h0 s.vm h0 := CHr.refl CH0
  have pre0 : ∀ t, Steps p.tables e below (s₁.setTop (mkF m 0 #[.val (.ref xl), .val (.ref xs)] [])) t → Steps p.tables e below (s₁.setTop (entryFrame m #[(.ref xl), (.ref xs)] 2)) t := fun t k => castTop (ef_5 m xl xs) k
  obtain ⟨T301, X301, e301, st301⟩ := initO X0 hx hZ0 hown0 (hw _ (List.mem_of_getElem? (i := 46) rfl)) (hw _ (List.mem_of_getElem? (i := 19) rfl)) (hw _ (List.mem_of_getElem? (i := 20) rfl)) e0 (g := (mkF m 1 #[.val (.ref xl), .val (.ref xs)] [(.ref xl)])) rfl (by rw [hml]; rfl) rfl (hb hby d_prog_7_method_1_code_1) (by decide) (W := 0) (by show 2 * 0 + _ ≤ _; exact Nat.le_of_eq rfl) (by decide)
  obtain ⟨b302, T302, h302, kk302, X302, e302, E302, hS302, hk302, hZ302, hown302, ch302, li302, st302⟩ := ldcOH X301 hx hZ0 hown0 (hw _ (List.mem_of_getElem? (i := 47) rfl)) (own_hw_str hw) e301 hS0 hk0 (own_EW hw) CR0.1 (g := (mkF m 5 #[.val (.ref xl), .val (.ref xs)] [(.ref xs)])) rfl (hb hby d_prog_7_method_1_code_5) (n := 24) (by decide) (by decide) (by decide) (by decide)
  have CR303 : CHr Z [("java/lang/String", 7)] s.vm h0 T302.vm h302 := CR0.trans ch302
  obtain ⟨_, _, ⟨T304, L304, k304, n304⟩, -, X304, ⟨Lc304, hQ304, l304, y304, z304⟩, st304⟩ := Jvm.LawKit.callS X302 hx (y := (⟨"java/util/Objects", "requireNonNull", "(Ljava/lang/Object;Ljava/lang/String;)Ljava/lang/Object;"⟩ : MethodName)) hown302 (mvT hZ302 (hw _ (List.mem_of_getElem? (i := 48) rfl))) (mvT hZ302 (hw _ (List.mem_of_getElem? (i := 49) rfl))) (mvT hZ302 (hw _ (List.mem_of_getElem? (i := 50) rfl))) (mvT hZ302 (hw _ (List.mem_of_getElem? (i := 51) rfl))) (by decide) (backOf (W := 0) (rm_rnn l Z a0 hw [] xs b302 h302 n0 (Nat.le_trans Z0 E302.1) ) hZ302 (hw _ (List.mem_of_getElem? (i := 51) rfl)) (hw _ (List.mem_of_getElem? (i := 50) rfl)) (by decide) (by decide)) (g := (mkF m 7 #[.val (.ref xl), .val (.ref xs)] [(.ref b302), (.ref xs)])) rfl (by rw [hml]; rfl) (argsL := [(.ref xs), (.ref b302)]) (rest := []) (lenOf pd_20 rfl) rfl (by show 2 * 0 + _ ≤ _; exact Nat.le_of_eq rfl) (hb hby d_prog_7_method_1_code_7) (fun _ _ => ⟨rfl, e302, (by decide : 2 + 0 ≤ _), (by decide : 28 + 0 ≤ _)⟩)
  dsimp only [Pt.U, Pt.locs, Pt.cells, Pt.slots] at X304 l304 y304 z304 st304 hQ304
  subst l304 y304 z304
  obtain ⟨rfl, Nq304, e304⟩ := hQ304
  have N304 := Fr.app N0 Nq304
  have c305 : Exa Z h302 xs "java/lang/String" := (q3.ext E302)
  have c306 : Old Z n0 h302 := (q2.ext E302)
  have c307 : Fld Z h302 xs "java/lang/String" "value" "[B" (.ref t1) := (q4.ext E302)
  have c308 : Fld Z h302 xs "java/lang/String" "coder" "B" (.int (0 : Int32)) := (q5.ext E302)
  have c309 : Arv Z h302 t1 k1 .byte (Int32.ofNat ds.length) (own_bs ds) (.int 0) := (q6.ext E302)
  obtain ⟨cq310, kq310, q310a, q310b, q310c⟩ := isOf hZ302 e304 c305
  obtain ⟨_, _, ⟨T310, L310, k310, n310⟩, -, X310, ⟨Lc310, hQ310, l310, y310, z310⟩, st310⟩ := X304.virtualBack hx (y := (⟨"java/lang/String", "indexOf", "(I)I"⟩ : MethodName)) (z := (⟨"java/lang/String", "indexOf", "(I)I"⟩ : MethodName)) hown302 (mvT hZ302 (hw _ (List.mem_of_getElem? (i := 52) rfl))) (mvT hZ302 (hw _ (List.mem_of_getElem? (i := 53) rfl))) (notFace_of_selects (args := #[]) (mvT hZ302 (hw _ (List.mem_of_getElem? (i := 55) rfl)))) (mvT hZ302 (hw _ (List.mem_of_getElem? (i := 55) rfl))) (mvT hZ302 (hw _ (List.mem_of_getElem? (i := 54) rfl))) (by decide) (backOf (W := 0) (rm_ix1 l Z a0 hw [] xs t1 k1 ds G h302 n0 (Nat.le_trans Z0 E302.1) q0 hCS c306 c305 c307 c308 c309 hcd1 hbd1 hle1 hno) hZ302 (hw _ (List.mem_of_getElem? (i := 56) rfl)) (hw _ (List.mem_of_getElem? (i := 10) rfl)) (by decide) (by decide)) q310a q310c (g := (mkF m 14 #[.val (.ref xl), .val (.ref xs)] [(.int (123 : Int32)), (.ref xs)])) rfl (by rw [hml]; rfl) (Steps.refl _) (argsL := [(.int (123 : Int32))]) (rest := []) (lenOf pd_21 rfl) rfl (by show 2 * 0 + _ ≤ _; exact Nat.le_of_eq rfl) (hb hby d_prog_7_method_1_code_14) (fun _ _ => ⟨rfl, e304, (by decide : 2 + 0 ≤ _), (by decide : 28 + 0 ≤ _)⟩)
  dsimp only [Pt.U, Pt.locs, Pt.cells, Pt.slots] at X310 l310 y310 z310 st310 hQ310
  subst l310 y310 z310
  obtain ⟨rfl, Nq310, K310⟩ := hQ310
  have N310 := Fr.app N304 Nq310
  have CR311 : CHr Z [("java/lang/String", 7)] s.vm h0 T302.vm T310.heap := CR303.trans (CHr.keep K310 sf0 CR303.1)
  have c312 : Fld Z T310.heap xl "com/example/holdfast/holdfast/redis/LockKeys" "_prefix" "Ljava/lang/String;" .null := ((q12.ext E302).keep K310 nin0)
  have c313 : Exa Z T310.heap xl "com/example/holdfast/holdfast/redis/LockKeys" := ((q11.ext E302).keep K310)
  have sf315 : Safe Z [("java/lang/String", 7)] T302.vm T310.heap xl := Safe.exa (EL := [("java/lang/String", 7)]) hZ302.alike c313 (by decide) (by decide)
  obtain ⟨T314, h314, X314, e314, W314, st314⟩ := putF X310 hx hZ302 hown302 (host := "") (Or.inl (hw _ (List.mem_of_getElem? (i := 91) rfl))) Via.refl rfl c312 c313 (Or.inr ⟨(hw _ (List.mem_of_getElem? (i := 92) rfl)), rfl, hnm⟩) (hw _ (List.mem_of_getElem? (i := 41) rfl)) (ty := (.object "java/lang/String")) (by decide) rfl rfl (g := (mkF m 49 #[.val (.ref xl), .val (.ref xs)] [(.ref xs), (.ref xl)])) rfl rfl (hb hby d_prog_7_method_1_code_49)
  have N314 := Fr.snoc X314 N310 q13
  have CR316 : CHr Z [("java/lang/String", 7)] s.vm h0 T302.vm h314 := CR311.trans (CHr.wr W314 sf315 CR311.1)
  have sf317 : Safe Z [("java/lang/String", 7)] T302.vm h314 xl := Safe.wr W314 sf315 CR311.1 sf315
  have F314 : Fld Z h314 xl "com/example/holdfast/holdfast/redis/LockKeys" "_prefix" "Ljava/lang/String;" (.ref xs) := c312.same W314
  obtain ⟨fs, hr, hrun, hended, hEnd⟩ := X314.leaveW hS302 (by rw [e314]; exact (Nat.le_trans hk302 (Nat.le_trans K310.1 (Keep.of_wr W314).1))) (v := none) (fun _ => rfl)
  refine ⟨_, _, pre0 _ ?_, hrun, hended, _, _, rfl, ?_, (by rw [hh]; show CHr Z [("java/lang/String", 7)] s.vm h0 T314.vm T314.heap; rw [e314]; exact CR316.trans (CHv.at X314 hZ302 (own_EW hw) CR316.1)), hEnd.1, hEnd.2.1, hEnd.2.2.1, hEnd.2.2.2.mono (by decide) (by decide)⟩
  · refine XS.aloadN X0.here hx rfl (hb hby d_prog_7_method_1_code_0) rfl rfl ?_
    show Steps p.tables e below (s₁.setTop (mkF m 1 #[.val (.ref xl), .val (.ref xs)] [(.ref xl)])) _
    refine st301 _ ?_
    show Steps p.tables e below (T301.setTop (mkF m 4 #[.val (.ref xl), .val (.ref xs)] [])) _
    refine XS.aloadN X301.here hx rfl (hb hby d_prog_7_method_1_code_4) rfl rfl ?_
    show Steps p.tables e below (T301.setTop (mkF m 5 #[.val (.ref xl), .val (.ref xs)] [(.ref xs)])) _
    refine st302 _ ?_
    show Steps p.tables e below (T302.setTop (mkF m 7 #[.val (.ref xl), .val (.ref xs)] [(.ref b302), (.ref xs)])) _
    refine st304 _ ?_
    show Steps p.tables e below (T304.setTop (mkF m 10 #[.val (.ref xl), .val (.ref xs)] [(.ref xs)])) _
    refine XS.pop X304.here hx rfl (hb hby d_prog_7_method_1_code_10) rfl rfl ?_
    show Steps p.tables e below (T304.setTop (mkF m 11 #[.val (.ref xl), .val (.ref xs)] [])) _
    refine XS.aloadN X304.here hx rfl (hb hby d_prog_7_method_1_code_11) rfl rfl ?_
    show Steps p.tables e below (T304.setTop (mkF m 12 #[.val (.ref xl), .val (.ref xs)] [(.ref xs)])) _
    refine XS.bipush X304.here hx rfl (hb hby d_prog_7_method_1_code_12) ?_
    show Steps p.tables e below (T304.setTop (mkF m 14 #[.val (.ref xl), .val (.ref xs)] [(.int (123 : Int32)), (.ref xs)])) _
    refine st310.trans ?_
    show Steps p.tables e below (T310.setTop (mkF m 17 #[.val (.ref xl), .val (.ref xs)] [(.int (-1 : Int32))])) _
    refine XS.ifYes X310.here hx rfl (pc0 := 17) (pc' := 47) rfl (hb hby d_prog_7_method_1_code_17) rfl ((if0 _ _).trans (tlt ((by decide) : (-1 : Int32) < (0 : Int32))).1) (by decide) (by decide) ?_
    show Steps p.tables e below (T310.setTop (mkF m 47 #[.val (.ref xl), .val (.ref xs)] [])) _
    refine XS.aloadN X310.here hx rfl (hb hby d_prog_7_method_1_code_47) rfl rfl ?_
    show Steps p.tables e below (T310.setTop (mkF m 48 #[.val (.ref xl), .val (.ref xs)] [(.ref xl)])) _
    refine XS.aloadN X310.here hx rfl (hb hby d_prog_7_method_1_code_48) rfl rfl ?_
    show Steps p.tables e below (T310.setTop (mkF m 49 #[.val (.ref xl), .val (.ref xs)] [(.ref xs), (.ref xl)])) _
    refine st314 _ ?_
    show Steps p.tables e below (T314.setTop (mkF m 52 #[.val (.ref xl), .val (.ref xs)] [])) _
    exact X314.returnOut hx Bd.returns (hb hby d_prog_7_method_1_code_52) hr
  · show Q_lkI Z xl xs t1 k1 ds G h0 n0 _ T314.heap _
    rw [e314]
    exact ⟨rfl, N314, ((((Keep.refl h0 ([xl] : List Addr)).ext E302).trans K310 all0).wr W314 (Or.inl (by simp))), F314⟩
theorem d_prog_7_method_2_code_0 : decode prog_7_method_2_code 0 = .ok (.aload_n 1, 1) := by decide +kernel
theorem d_prog_7_method_2_code_1 : decode prog_7_method_2_code 1 = .ok (.ldc 45, 2) := by decide +kernel
theorem d_prog_7_method_2_code_3 : decode prog_7_method_2_code 3 = .ok (.invokestatic 9, 3) := by decide +kernel
theorem d_prog_7_method_2_code_6 : decode prog_7_method_2_code 6 = .ok (.pop, 1) := by decide +kernel
theorem d_prog_7_method_2_code_7 : decode prog_7_method_2_code 7 = .ok (.aload_n 1, 1) := by decide +kernel
theorem d_prog_7_method_2_code_8 : decode prog_7_method_2_code 8 = .ok (.invokevirtual 47, 3) := by decide +kernel
theorem d_prog_7_method_2_code_11 : decode prog_7_method_2_code 11 = .ok (.ifCond .eq 13, 3) := by decide +kernel
theorem d_prog_7_method_2_code_24 : decode prog_7_method_2_code 24 = .ok (.aload_n 1, 1) := by decide +kernel
theorem d_prog_7_method_2_code_25 : decode prog_7_method_2_code 25 = .ok (.iconst 0, 1) := by decide +kernel
theorem d_prog_7_method_2_code_26 : decode prog_7_method_2_code 26 = .ok (.invokevirtual 53, 3) := by decide +kernel
theorem pd_22 : parseMethodDescriptor "(I)C" = some ⟨[.int], some .char⟩ := by decide +kernel
theorem d_prog_7_method_2_code_29 : decode prog_7_method_2_code 29 = .ok (.bipush 125, 2) := by decide +kernel
theorem d_prog_7_method_2_code_31 : decode prog_7_method_2_code 31 = .ok (.if_icmp .ne 30, 3) := by decide +kernel
theorem d_prog_7_method_2_code_61 : decode prog_7_method_2_code 61 = .ok (.new 23, 3) := by decide +kernel
theorem d_prog_7_method_2_code_64 : decode prog_7_method_2_code 64 = .ok (.dup, 1) := by decide +kernel
theorem d_prog_7_method_2_code_65 : decode prog_7_method_2_code 65 = .ok (.invokespecial 25, 3) := by decide +kernel
theorem pd_23 : parseMethodDescriptor "()V" = some ⟨[], none⟩ := by decide +kernel
theorem d_prog_7_method_2_code_68 : decode prog_7_method_2_code 68 = .ok (.aload_n 0, 1) := by decide +kernel
theorem d_prog_7_method_2_code_69 : decode prog_7_method_2_code 69 = .ok (.getfield 39, 3) := by decide +kernel
theorem d_prog_7_method_2_code_72 : decode prog_7_method_2_code 72 = .ok (.invokevirtual 28, 3) := by decide +kernel
theorem pd_24 : parseMethodDescriptor "(Ljava/lang/String;)Ljava/lang/StringBuilder;" = some ⟨[(.object "java/lang/String")], some (.object "java/lang/StringBuilder")⟩ := by decide +kernel
theorem d_prog_7_method_2_code_75 : decode prog_7_method_2_code 75 = .ok (.bipush 123, 2) := by decide +kernel
theorem d_prog_7_method_2_code_77 : decode prog_7_method_2_code 77 = .ok (.invokevirtual 59, 3) := by decide +kernel
theorem pd_25 : parseMethodDescriptor "(C)Ljava/lang/StringBuilder;" = some ⟨[.char], some (.object "java/lang/StringBuilder")⟩ := by decide +kernel
theorem d_prog_7_method_2_code_80 : decode prog_7_method_2_code 80 = .ok (.aload_n 1, 1) := by decide +kernel
theorem d_prog_7_method_2_code_81 : decode prog_7_method_2_code 81 = .ok (.invokevirtual 28, 3) := by decide +kernel
theorem d_prog_7_method_2_code_84 : decode prog_7_method_2_code 84 = .ok (.bipush 125, 2) := by decide +kernel
theorem d_prog_7_method_2_code_86 : decode prog_7_method_2_code 86 = .ok (.invokevirtual 59, 3) := by decide +kernel
theorem d_prog_7_method_2_code_89 : decode prog_7_method_2_code 89 = .ok (.invokevirtual 32, 3) := by decide +kernel
theorem pd_26 : parseMethodDescriptor "()Ljava/lang/String;" = some ⟨[], some (.object "java/lang/String")⟩ := by decide +kernel
theorem d_prog_7_method_2_code_92 : decode prog_7_method_2_code 92 = .ok (.areturn, 1) := by decide +kernel
def Q_lkK (Z : State) (xl : Addr) (ys : Addr) (xs : Addr) (t1 : Addr) (k1 : ClassId) (ds : List Int32) (t2 : Addr) (k2 : ClassId) (es : List Int32) (G : Int32) (fm : Value) (h0 : Heap) (n0 : Nat) (v : Option Value) (h : Heap) (L : List Loc) : Prop := ∃ (xr : Addr) (tt : Addr) (kt : ClassId), (v = some (.ref xr)) ∧ (Fr n0 L) ∧ (Keep h0 h ([] : List Addr)) ∧ (h0.size ≤ xr) ∧ (Exa Z h xr "java/lang/String") ∧ (Fld Z h xr "java/lang/String" "value" "[B" (.ref tt)) ∧ (Fld Z h xr "java/lang/String" "coder" "B" (.int (0 : Int32))) ∧ (Arv Z h tt kt .byte (Int32.ofNat (ds ++ [(123 : Int32)] ++ es ++ [(125 : Int32)]).length) (own_bs (ds ++ [(123 : Int32)] ++ es ++ [(125 : Int32)])) (.int (0 : Int32)))
set_option maxRecDepth 65536 in
set_option maxHeartbeats 40000000 in
theorem rm_lkK (l : Launch) (Z : State) (a0 : Array Value) (hw : ∀ d ∈ tables_1, d.before a0 Z = true) (ws : List Jvm.Cond) (xl : Addr) (ys : Addr) (xs : Addr) (t1 : Addr) (k1 : ClassId) (ds : List Int32) (t2 : Addr) (k2 : ClassId) (es : List Int32) (G : Int32) (fm : Value) (h0 : Heap) (n0 : Nat) (Z0 : n0 ≤ h0.size) (q0 : Sta Z Z.heap "java/lang/String" "COMPACT_STRINGS" "Z" (.int G)) (hCS : ¬ (G = (0 : Int32))) (q2 : Sta Z Z.heap "jdk/internal/util/Preconditions" "SIOOBE_FORMATTER" "Ljava/util/function/BiFunction;" fm) (hFM : fm.isRef = true) (q4 : Old Z n0 h0) (q5 : Fld Z h0 xl "com/example/holdfast/holdfast/redis/LockKeys" "_prefix" "Ljava/lang/String;" (.ref xs)) (q6 : Exa Z h0 xs "java/lang/String") (q7 : Fld Z h0 xs "java/lang/String" "value" "[B" (.ref t1)) (q8 : Fld Z h0 xs "java/lang/String" "coder" "B" (.int (0 : Int32))) (q9 : Arv Z h0 t1 k1 .byte (Int32.ofNat ds.length) (own_bs ds) (.int 0)) (hcd1 : StrChars.Road.CodA ds 0 (Int32.ofNat ds.length) (own_bs ds)) (hbd1 : ∀ c ∈ ds, ¬ c < 0 ∧ ¬ (65535 : Int32) < c) (hle1 : ds.length ≤ 4000) (q13 : Exa Z h0 ys "java/lang/String") (q14 : Fld Z h0 ys "java/lang/String" "value" "[B" (.ref t2)) (q15 : Fld Z h0 ys "java/lang/String" "coder" "B" (.int (0 : Int32))) (q16 : Arv Z h0 t2 k2 .byte (Int32.ofNat es.length) (own_bs es) (.int 0)) (hcd2 : StrChars.Road.CodA es 0 (Int32.ofNat es.length) (own_bs es)) (hbd2 : ∀ c ∈ es, ¬ c < 0 ∧ ¬ (65535 : Int32) < c) (hle2 : es.length ≤ 4000) (hne : 0 < es.length) (h125 : ¬ es.getD 0 0 = (125 : Int32)) (hd3 : ds.length ≤ 3) (he3 : es.length ≤ 3) :
    MetFree l (⟨"com/example/holdfast/holdfast/redis/LockKeys", "lockKey", "(Ljava/lang/String;)Ljava/lang/String;"⟩ : MethodName) (head1 (Jvm.Cond.code (⟨"com/example/holdfast/holdfast/redis/LockKeys", "lockKey", "(Ljava/lang/String;)Ljava/lang/String;"⟩ : MethodName) prog_7_method_2_code 2 (some (.object "java/lang/String")) :: ws) ({ frames := 6, cells := 6, slots := 60, locals := 91 } : Room)) (fun a₁ U₁ => a₁ = #[(.ref xl), (.ref ys)] ∧ Z.Warmed39 U₁.vm ∧ U₁.heap = h0 ∧ CHv Z [("java/lang/String", 7)] U₁.vm h0) (fun _ _ _ _ _ => True) (fun _ U₁ o₁ U₂ => ∃ v₁ L₁, o₁ = .returned v₁ ∧ Q_lkK Z xl ys xs t1 k1 ds t2 k2 es G fm h0 n0 v₁ U₂.heap L₁ ∧ CHr Z [("java/lang/String", 7)] U₁.vm U₁.heap U₂.vm U₂.heap ∧ ReturnedEndW U₁ o₁ U₂ L₁ ({ frames := 6, cells := 6, slots := 60, locals := 91 } : Room).cells ({ frames := 6, cells := 6, slots := 60, locals := 91 } : Room).slots) := by
  refine MetFree.of_bodySF (plainFor_of_name pn_7) hisR ?_
  intro p e s m args below meth c s₁ Bd hml0 hP hK
  obtain ⟨rfl, hZ, hh, CH0⟩ := hP
  have hx := Bd.exec
  have hby := Bd.bytes
  have hml : c.maxLocals = 2 := hml0
  have hown : s.vm.findClass "com/example/holdfast/holdfast/redis/LockKeys" = some m.cls := findClass_of_methodNamed Bd.named
  have hnm := (name_of_methodNamed Bd.named Bd.method).1
  have X0 : Stand p l e ({ frames := 6, cells := 6, slots := 60, locals := 91 } : Room) (s.setVm s.vm) m #[(.ref xl), (.ref ys)] below meth c s₁ [] 0 0 := Stand.of_body Bd
  have e0 : s₁.heap = h0 := by rw [← hh, Bd.state]; rfl
  have N0 := Fr.nil n0
  have hZ0 : Z.Warmed39 (s.setVm s.vm).vm := hZ
  have hown0 : (s.setVm s.vm).vm.findClass "com/example/holdfast/holdfast/redis/LockKeys" = some m.cls := hown
  have hS0 : s.Since s.vm h0.size := (State.WarmedH.refl s).since _
  have hk0 : h0.size ≤ h0.size := Nat.le_refl _
  have CR0 : CHr Z [("java/lang/String", 7)] s.vm h0 s.vm h0 := CHr.refl CH0
  have pre0 : ∀ t, Steps p.tables e below (s₁.setTop (mkF m 0 #[.val (.ref xl), .val (.ref ys)] [])) t → Steps p.tables e below (s₁.setTop (entryFrame m #[(.ref xl), (.ref ys)] 2)) t := fun t k => castTop (ef_5 m xl ys) k
  obtain ⟨b301, T301, h301, kk301, X301, e301, E301, hS301, hk301, hZ301, hown301, ch301, li301, st301⟩ := ldcOH X0 hx hZ0 hown0 (hw _ (List.mem_of_getElem? (i := 98) rfl)) (own_hw_str hw) e0 hS0 hk0 (own_EW hw) CR0.1 (g := (mkF m 1 #[.val (.ref xl), .val (.ref ys)] [(.ref ys)])) rfl (hb hby d_prog_7_method_2_code_1) (n := 16) (by decide) (by decide) (by decide) (by decide)
  have CR302 : CHr Z [("java/lang/String", 7)] s.vm h0 T301.vm h301 := CR0.trans ch301
  obtain ⟨_, _, ⟨T303, L303, k303, n303⟩, -, X303, ⟨Lc303, hQ303, l303, y303, z303⟩, st303⟩ := Jvm.LawKit.callS X301 hx (y := (⟨"java/util/Objects", "requireNonNull", "(Ljava/lang/Object;Ljava/lang/String;)Ljava/lang/Object;"⟩ : MethodName)) hown301 (mvT hZ301 (hw _ (List.mem_of_getElem? (i := 48) rfl))) (mvT hZ301 (hw _ (List.mem_of_getElem? (i := 49) rfl))) (mvT hZ301 (hw _ (List.mem_of_getElem? (i := 50) rfl))) (mvT hZ301 (hw _ (List.mem_of_getElem? (i := 51) rfl))) (by decide) (backOf (W := 0) (rm_rnn l Z a0 hw [] ys b301 h301 n0 (Nat.le_trans Z0 E301.1) ) hZ301 (hw _ (List.mem_of_getElem? (i := 51) rfl)) (hw _ (List.mem_of_getElem? (i := 50) rfl)) (by decide) (by decide)) (g := (mkF m 3 #[.val (.ref xl), .val (.ref ys)] [(.ref b301), (.ref ys)])) rfl (by rw [hml]; rfl) (argsL := [(.ref ys), (.ref b301)]) (rest := []) (lenOf pd_20 rfl) rfl (by show 2 * 0 + _ ≤ _; exact Nat.le_of_eq rfl) (hb hby d_prog_7_method_2_code_3) (fun _ _ => ⟨rfl, e301, (by decide : 2 + 0 ≤ _), (by decide : 20 + 0 ≤ _)⟩)
  dsimp only [Pt.U, Pt.locs, Pt.cells, Pt.slots] at X303 l303 y303 z303 st303 hQ303
  subst l303 y303 z303
  obtain ⟨rfl, Nq303, e303⟩ := hQ303
  have N303 := Fr.app N0 Nq303
  have c304 : Exa Z h301 ys "java/lang/String" := (q13.ext E301)
  have c306 : Old Z n0 h301 := (q4.ext E301)
  have c307 : Fld Z h301 ys "java/lang/String" "value" "[B" (.ref t2) := (q14.ext E301)
  have c308 : Fld Z h301 ys "java/lang/String" "coder" "B" (.int (0 : Int32)) := (q15.ext E301)
  have c309 : Arv Z h301 t2 k2 .byte (Int32.ofNat es.length) (own_bs es) (.int 0) := (q16.ext E301)
  obtain ⟨cq305, kq305, q305a, q305b, q305c⟩ := isOf hZ301 e303 c304
  obtain ⟨_, _, ⟨T305, L305, k305, n305⟩, -, X305, ⟨Lc305, hQ305, l305, y305, z305⟩, st305⟩ := X303.virtualBack hx (y := (⟨"java/lang/String", "isEmpty", "()Z"⟩ : MethodName)) (z := (⟨"java/lang/String", "isEmpty", "()Z"⟩ : MethodName)) hown301 (mvT hZ301 (hw _ (List.mem_of_getElem? (i := 99) rfl))) (mvT hZ301 (hw _ (List.mem_of_getElem? (i := 100) rfl))) (notFace_of_selects (args := #[]) (mvT hZ301 (hw _ (List.mem_of_getElem? (i := 102) rfl)))) (mvT hZ301 (hw _ (List.mem_of_getElem? (i := 102) rfl))) (mvT hZ301 (hw _ (List.mem_of_getElem? (i := 101) rfl))) (by decide) (StrChars.Road.empW (W := 0) hZ301 (own_hw_empW hw) (kI := 4) (hw _ (List.mem_of_getElem? (i := 9) rfl)) c304 c307 c308 c309 hcd2 hbd2 hle2 (by decide) (by decide)) q305a q305c (g := (mkF m 8 #[.val (.ref xl), .val (.ref ys)] [(.ref ys)])) rfl (by rw [hml]; rfl) (Steps.refl _) (argsL := []) (rest := []) (lenOf pd_7 rfl) rfl (by show 2 * 0 + _ ≤ _; exact Nat.le_of_eq rfl) (hb hby d_prog_7_method_2_code_8) (fun _ _ => ⟨rfl, e303, (by decide : 2 + 0 ≤ _), (by decide : 20 + 0 ≤ _)⟩)
  dsimp only [Pt.U, Pt.locs, Pt.cells, Pt.slots] at X305 l305 y305 z305 st305 hQ305
  subst l305 y305 z305
  obtain ⟨rfl, rfl, e305⟩ := hQ305
  have N305 := Fr.app N303 (Fr.nil n0)
  obtain ⟨cq310, kq310, q310a, q310b, q310c⟩ := isOf hZ301 e305 c304
  obtain ⟨_, _, ⟨T310, L310, k310, n310⟩, -, X310, ⟨Lc310, hQ310, l310, y310, z310⟩, st310⟩ := X305.virtualBack hx (y := (⟨"java/lang/String", "charAt", "(I)C"⟩ : MethodName)) (z := (⟨"java/lang/String", "charAt", "(I)C"⟩ : MethodName)) hown301 (mvT hZ301 (hw _ (List.mem_of_getElem? (i := 104) rfl))) (mvT hZ301 (hw _ (List.mem_of_getElem? (i := 105) rfl))) (notFace_of_selects (args := #[]) (mvT hZ301 (hw _ (List.mem_of_getElem? (i := 107) rfl)))) (mvT hZ301 (hw _ (List.mem_of_getElem? (i := 107) rfl))) (mvT hZ301 (hw _ (List.mem_of_getElem? (i := 106) rfl))) (by decide) (StrChars.Road.chN (W := 0) hZ301 (own_hw_chN hw) (kI := 4) (hw _ (List.mem_of_getElem? (i := 9) rfl)) c304 c307 c308 c309 hcd2 hbd2 (q0.ext c306.2) hCS (q2.ext c306.2) hFM hle2 (i := 0) hne (j := (0 : Int32)) rfl (by decide) (by decide)) q310a q310c (g := (mkF m 26 #[.val (.ref xl), .val (.ref ys)] [(.int (0 : Int32)), (.ref ys)])) rfl (by rw [hml]; rfl) (Steps.refl _) (argsL := [(.int (0 : Int32))]) (rest := []) (lenOf pd_22 rfl) rfl (by show 2 * 0 + _ ≤ _; exact Nat.le_of_eq rfl) (hb hby d_prog_7_method_2_code_26) (fun _ _ => ⟨rfl, e305, (by decide : 2 + 0 ≤ _), (by decide : 20 + 0 ≤ _)⟩)
  dsimp only [Pt.U, Pt.locs, Pt.cells, Pt.slots] at X310 l310 y310 z310 st310 hQ310
  subst l310 y310 z310
  obtain ⟨rfl, rfl, e310⟩ := hQ310
  have N310 := Fr.app N305 (Fr.nil n0)
  obtain ⟨T311, h311, X311, e311, E311, A311, D311, -, st311⟩ := newO X310 hx hZ301 hown301 (hw _ (List.mem_of_getElem? (i := 120) rfl)) (hw _ (List.mem_of_getElem? (i := 121) rfl)) (hw _ (List.mem_of_getElem? (i := 122) rfl)) e310 (g := (mkF m 61 #[.val (.ref xl), .val (.ref ys)] [])) rfl (hb hby d_prog_7_method_2_code_61) (by decide) (by decide)
  obtain ⟨b311, g311⟩ : ∃ z, z = h301.size := ⟨_, rfl⟩
  rw [← g311] at A311 D311 st311
  have sf312 : Safe Z [("java/lang/String", 7)] T301.vm h301 b311 := Safe.new (Nat.le_of_eq g311.symm)
  have CR313 : CHr Z [("java/lang/String", 7)] s.vm h0 T301.vm h311 := CR302.trans (CHr.ext E311 CR302.1)
  have sf314 : Safe Z [("java/lang/String", 7)] T301.vm h311 b311 := Safe.ext E311 CR302.1 sf312
  have D311_value : Fld Z h311 b311 "java/lang/AbstractStringBuilder" "value" "[B" .null := D311 (Or.inl (hw _ (List.mem_of_getElem? (i := 135) rfl))) (ty := (.array .byte)) (by decide)
  have D311_coder : Fld Z h311 b311 "java/lang/AbstractStringBuilder" "coder" "B" (.int (0 : Int32)) := D311 (Or.inl (hw _ (List.mem_of_getElem? (i := 137) rfl))) (ty := .byte) (by decide)
  have D311_count : Fld Z h311 b311 "java/lang/AbstractStringBuilder" "count" "I" (.int (0 : Int32)) := D311 (Or.inl (hw _ (List.mem_of_getElem? (i := 150) rfl))) (ty := .int) (by decide)
  have c315 : Old Z n0 h311 := (c306.ext E311)
  have ge316 : n0 ≤ b311 := Nat.le_trans Z0 (Nat.le_trans E301.1 (Nat.le_of_eq g311.symm))
  obtain ⟨_, _, ⟨T317, L317, k317, n317⟩, -, X317, ⟨Lc317, hQ317, l317, y317, z317⟩, st317⟩ := X311.specialBack hx (y := (⟨"java/lang/StringBuilder", "<init>", "()V"⟩ : MethodName)) rfl hown301 (mvT hZ301 (hw _ (List.mem_of_getElem? (i := 123) rfl))) (mvT hZ301 (hw _ (List.mem_of_getElem? (i := 124) rfl))) (mvT hZ301 (hw _ (List.mem_of_getElem? (i := 125) rfl))) (by decide) (backOf (W := 1) (rm_sbI l Z a0 hw [] b311 G h311 n0 (Nat.le_trans Z0 (Nat.le_trans E301.1 E311.1)) q0 hCS c315 A311 D311_value D311_coder D311_count ge316) hZ301 (hw _ (List.mem_of_getElem? (i := 125) rfl)) (hw _ (List.mem_of_getElem? (i := 122) rfl)) (by decide) (by decide)) (g := (mkF m 65 #[.val (.ref xl), .val (.ref ys)] [(.ref b311), (.ref b311)])) rfl (by rw [hml]; rfl) (Steps.refl _) (a := b311) (argsL := []) (rest := [(.ref b311)]) (lenOf pd_23 rfl) rfl (by show 2 * 0 + _ ≤ _; exact Nat.le_of_eq rfl) (hb hby d_prog_7_method_2_code_65) (fun _ _ => ⟨rfl, e311, (by decide : 3 + 1 ≤ _), (by decide : 24 + 16 ≤ _)⟩)
  dsimp only [Pt.U, Pt.locs, Pt.cells, Pt.slots] at X317 l317 y317 z317 st317 hQ317
  subst l317 y317 z317
  obtain ⟨va_317, ka_317, rfl, Nq317, K317, f317_0, f317_1, f317_2, f317_3, f317_4⟩ := hQ317
  have N317 := Fr.app N310 Nq317
  have sf318 : Safe Z [("java/lang/String", 7)] T301.vm h311 va_317 := Safe.new f317_3
  have CR319 : CHr Z [("java/lang/String", 7)] s.vm h0 T301.vm T317.heap := CR313.trans (CHr.keep K317 (sfS sf314 sf0) CR313.1)
  have sf320 : Safe Z [("java/lang/String", 7)] T301.vm T317.heap b311 := Safe.keep K317 (sfS sf314 sf0) CR313.1 sf314
  have sf321 : Safe Z [("java/lang/String", 7)] T301.vm T317.heap va_317 := Safe.keep K317 (sfS sf314 sf0) CR313.1 sf318
  have ne322 : xl ≠ b311 := Nat.ne_of_lt (Nat.lt_of_lt_of_le (Nat.lt_of_lt_of_le q5.lt E301.1) (Nat.le_of_eq g311.symm))
  have c323 : Fld Z T317.heap xl "com/example/holdfast/holdfast/redis/LockKeys" "_prefix" "Ljava/lang/String;" (.ref xs) := (((q5.ext E301).ext E311).keep K317 (ninS ne322 nin0))
  obtain ⟨T324, X324, e324, st324⟩ := getF X317 hx hZ301 hown301 (host := "") (Or.inl (hw _ (List.mem_of_getElem? (i := 91) rfl))) Via.refl rfl c323 (g := (mkF m 69 #[.val (.ref xl), .val (.ref ys)] [(.ref xl), (.ref b311)])) rfl rfl (hb hby d_prog_7_method_2_code_69)
  have c325 : Exa Z T317.heap b311 "java/lang/StringBuilder" := (A311.keep K317)
  have c326 : Old Z n0 T317.heap := (c315.keep K317 (allS ge316 all0))
  have c327 : Exa Z T317.heap xs "java/lang/String" := (((q6.ext E301).ext E311).keep K317)
  have ne328 : xs ≠ b311 := Nat.ne_of_lt (Nat.lt_of_lt_of_le (Nat.lt_of_lt_of_le q7.lt E301.1) (Nat.le_of_eq g311.symm))
  have c329 : Fld Z T317.heap xs "java/lang/String" "value" "[B" (.ref t1) := (((q7.ext E301).ext E311).keep K317 (ninS ne328 nin0))
  have c330 : Fld Z T317.heap xs "java/lang/String" "coder" "B" (.int (0 : Int32)) := (((q8.ext E301).ext E311).keep K317 (ninS ne328 nin0))
  have ne331 : t1 ≠ b311 := Nat.ne_of_lt (Nat.lt_of_lt_of_le (Nat.lt_of_lt_of_le q9.lt E301.1) (Nat.le_of_eq g311.symm))
  have c332 : Arv Z T317.heap t1 k1 .byte (Int32.ofNat ds.length) (own_bs ds) (.int 0) := (((q9.ext E301).ext E311).keep K317 (ninS ne331 nin0))
  have ge333 : n0 ≤ va_317 := Nat.le_trans Z0 (Nat.le_trans (Nat.le_trans E301.1 E311.1) f317_3)
  have ne334 : b311 ≠ va_317 := Nat.ne_of_lt (Nat.lt_of_lt_of_le A311.lt f317_3)
  have ne335 : t1 ≠ va_317 := Nat.ne_of_lt (Nat.lt_of_lt_of_le (Nat.lt_of_lt_of_le q9.lt (Nat.le_trans E301.1 E311.1)) f317_3)
  have ne336 : xs ≠ va_317 := Nat.ne_of_lt (Nat.lt_of_lt_of_le (Nat.lt_of_lt_of_le q6.lt (Nat.le_trans E301.1 E311.1)) f317_3)
  obtain ⟨cq337, kq337, q337a, q337b, q337c⟩ := isOf hZ301 e324 c325
  obtain ⟨_, _, ⟨T337, L337, k337, n337⟩, -, X337, ⟨Lc337, hQ337, l337, y337, z337⟩, st337⟩ := X324.virtualBack hx (y := (⟨"java/lang/StringBuilder", "append", "(Ljava/lang/String;)Ljava/lang/StringBuilder;"⟩ : MethodName)) (z := (⟨"java/lang/StringBuilder", "append", "(Ljava/lang/String;)Ljava/lang/StringBuilder;"⟩ : MethodName)) hown301 (mvT hZ301 (hw _ (List.mem_of_getElem? (i := 138) rfl))) (mvT hZ301 (hw _ (List.mem_of_getElem? (i := 139) rfl))) (notFace_of_selects (args := #[]) (mvT hZ301 (hw _ (List.mem_of_getElem? (i := 141) rfl)))) (mvT hZ301 (hw _ (List.mem_of_getElem? (i := 141) rfl))) (mvT hZ301 (hw _ (List.mem_of_getElem? (i := 140) rfl))) (by decide) (backOf (W := 0) (rm_appS l Z a0 hw [] b311 xs t1 k1 ds va_317 ka_317 [] G T317.heap n0 (Nat.le_trans Z0 (Nat.le_trans (Nat.le_trans E301.1 E311.1) K317.1)) q0 hCS c326 c327 c329 c330 c332 c325 f317_0 f317_1 f317_2 f317_4 ge316 ge333 ne334 ne335 ne328 ne336 ne331 (by simp only [List.length_nil]; omega) (hcd1) (hbd1)) hZ301 (hw _ (List.mem_of_getElem? (i := 142) rfl)) (hw _ (List.mem_of_getElem? (i := 122) rfl)) (by decide) (by decide)) q337a q337c (g := (mkF m 72 #[.val (.ref xl), .val (.ref ys)] [(.ref xs), (.ref b311)])) rfl (by rw [hml]; rfl) (Steps.refl _) (argsL := [(.ref xs)]) (rest := []) (lenOf pd_24 rfl) rfl (by show 2 * 0 + _ ≤ _; exact Nat.le_of_eq rfl) (hb hby d_prog_7_method_2_code_72) (fun _ _ => ⟨rfl, e324, (by decide : 4 + 0 ≤ _), (by decide : 40 + 0 ≤ _)⟩)
  dsimp only [Pt.U, Pt.locs, Pt.cells, Pt.slots] at X337 l337 y337 z337 st337 hQ337
  subst l337 y337 z337
  obtain ⟨rfl, Nq337, K337, f337_0, f337_1, f337_2, f337_3⟩ := hQ337
  have N337 := Fr.app N317 Nq337
  have CR338 : CHr Z [("java/lang/String", 7)] s.vm h0 T301.vm T337.heap := CR319.trans (CHr.keep K337 (sfS sf320 (sfS sf321 sf0)) CR319.1)
  have sf339 : Safe Z [("java/lang/String", 7)] T301.vm T337.heap b311 := Safe.keep K337 (sfS sf320 (sfS sf321 sf0)) CR319.1 sf320
  have sf340 : Safe Z [("java/lang/String", 7)] T301.vm T337.heap va_317 := Safe.keep K337 (sfS sf320 (sfS sf321 sf0)) CR319.1 sf321
  have c341 : Exa Z T337.heap b311 "java/lang/StringBuilder" := (c325.keep K337)
  have c342 : Old Z n0 T337.heap := (c326.keep K337 (allS ge316 (allS ge333 all0)))
  obtain ⟨cq343, kq343, q343a, q343b, q343c⟩ := isOf hZ301 rfl c341
  obtain ⟨_, _, ⟨T343, L343, k343, n343⟩, -, X343, ⟨Lc343, hQ343, l343, y343, z343⟩, st343⟩ := X337.virtualBack hx (y := (⟨"java/lang/StringBuilder", "append", "(C)Ljava/lang/StringBuilder;"⟩ : MethodName)) (z := (⟨"java/lang/StringBuilder", "append", "(C)Ljava/lang/StringBuilder;"⟩ : MethodName)) hown301 (mvT hZ301 (hw _ (List.mem_of_getElem? (i := 176) rfl))) (mvT hZ301 (hw _ (List.mem_of_getElem? (i := 177) rfl))) (notFace_of_selects (args := #[]) (mvT hZ301 (hw _ (List.mem_of_getElem? (i := 179) rfl)))) (mvT hZ301 (hw _ (List.mem_of_getElem? (i := 179) rfl))) (mvT hZ301 (hw _ (List.mem_of_getElem? (i := 178) rfl))) (by decide) (backOf (W := 0) (rm_appC l Z a0 hw [] b311 (123 : Int32) va_317 ka_317 ([] ++ ds) G T337.heap n0 (Nat.le_trans Z0 (Nat.le_trans (Nat.le_trans (Nat.le_trans E301.1 E311.1) K317.1) K337.1)) q0 hCS c342 c341 f337_0 f337_1 f337_2 f337_3 ge316 ge333 ne334 (by decide) (by simp only [List.length_append, List.length_cons, List.length_nil]; omega)) hZ301 (hw _ (List.mem_of_getElem? (i := 180) rfl)) (hw _ (List.mem_of_getElem? (i := 122) rfl)) (by decide) (by decide)) q343a q343c (g := (mkF m 77 #[.val (.ref xl), .val (.ref ys)] [(.int (123 : Int32)), (.ref b311)])) rfl (by rw [hml]; rfl) (Steps.refl _) (argsL := [(.int (123 : Int32))]) (rest := []) (lenOf pd_25 rfl) rfl (by show 2 * 0 + _ ≤ _; exact Nat.le_of_eq rfl) (hb hby d_prog_7_method_2_code_77) (fun _ _ => ⟨rfl, rfl, (by decide : 4 + 0 ≤ _), (by decide : 40 + 0 ≤ _)⟩)
  dsimp only [Pt.U, Pt.locs, Pt.cells, Pt.slots] at X343 l343 y343 z343 st343 hQ343
  subst l343 y343 z343
  obtain ⟨rfl, Nq343, K343, f343_0, f343_1, f343_2, f343_3⟩ := hQ343
  have N343 := Fr.app N337 Nq343
  have CR344 : CHr Z [("java/lang/String", 7)] s.vm h0 T301.vm T343.heap := CR338.trans (CHr.keep K343 (sfS sf339 (sfS sf340 sf0)) CR338.1)
  have sf345 : Safe Z [("java/lang/String", 7)] T301.vm T343.heap b311 := Safe.keep K343 (sfS sf339 (sfS sf340 sf0)) CR338.1 sf339
  have sf346 : Safe Z [("java/lang/String", 7)] T301.vm T343.heap va_317 := Safe.keep K343 (sfS sf339 (sfS sf340 sf0)) CR338.1 sf340
  have c347 : Exa Z T343.heap b311 "java/lang/StringBuilder" := (c341.keep K343)
  have c348 : Old Z n0 T343.heap := (c342.keep K343 (allS ge316 (allS ge333 all0)))
  have c349 : Exa Z T343.heap ys "java/lang/String" := ((((c304.ext E311).keep K317).keep K337).keep K343)
  have ne350 : ys ≠ b311 := Nat.ne_of_lt (Nat.lt_of_lt_of_le c307.lt (Nat.le_of_eq g311.symm))
  have ne351 : ys ≠ va_317 := Nat.ne_of_lt (Nat.lt_of_lt_of_le (Nat.lt_of_lt_of_le c307.lt E311.1) f317_3)
  have c352 : Fld Z T343.heap ys "java/lang/String" "value" "[B" (.ref t2) := ((((c307.ext E311).keep K317 (ninS ne350 nin0)).keep K337 (ninS ne350 (ninS ne351 nin0))).keep K343 (ninS ne350 (ninS ne351 nin0)))
  have c353 : Fld Z T343.heap ys "java/lang/String" "coder" "B" (.int (0 : Int32)) := ((((c308.ext E311).keep K317 (ninS ne350 nin0)).keep K337 (ninS ne350 (ninS ne351 nin0))).keep K343 (ninS ne350 (ninS ne351 nin0)))
  have ne354 : t2 ≠ b311 := Nat.ne_of_lt (Nat.lt_of_lt_of_le c309.lt (Nat.le_of_eq g311.symm))
  have ne355 : t2 ≠ va_317 := Nat.ne_of_lt (Nat.lt_of_lt_of_le (Nat.lt_of_lt_of_le c309.lt E311.1) f317_3)
  have c356 : Arv Z T343.heap t2 k2 .byte (Int32.ofNat es.length) (own_bs es) (.int 0) := ((((c309.ext E311).keep K317 (ninS ne354 nin0)).keep K337 (ninS ne354 (ninS ne355 nin0))).keep K343 (ninS ne354 (ninS ne355 nin0)))
  obtain ⟨cq357, kq357, q357a, q357b, q357c⟩ := isOf hZ301 rfl c347
  obtain ⟨_, _, ⟨T357, L357, k357, n357⟩, -, X357, ⟨Lc357, hQ357, l357, y357, z357⟩, st357⟩ := X343.virtualBack hx (y := (⟨"java/lang/StringBuilder", "append", "(Ljava/lang/String;)Ljava/lang/StringBuilder;"⟩ : MethodName)) (z := (⟨"java/lang/StringBuilder", "append", "(Ljava/lang/String;)Ljava/lang/StringBuilder;"⟩ : MethodName)) hown301 (mvT hZ301 (hw _ (List.mem_of_getElem? (i := 138) rfl))) (mvT hZ301 (hw _ (List.mem_of_getElem? (i := 139) rfl))) (notFace_of_selects (args := #[]) (mvT hZ301 (hw _ (List.mem_of_getElem? (i := 141) rfl)))) (mvT hZ301 (hw _ (List.mem_of_getElem? (i := 141) rfl))) (mvT hZ301 (hw _ (List.mem_of_getElem? (i := 140) rfl))) (by decide) (backOf (W := 0) (rm_appS l Z a0 hw [] b311 ys t2 k2 es va_317 ka_317 ([] ++ ds ++ [(123 : Int32)]) G T343.heap n0 (Nat.le_trans Z0 (Nat.le_trans (Nat.le_trans (Nat.le_trans (Nat.le_trans E301.1 E311.1) K317.1) K337.1) K343.1)) q0 hCS c348 c349 c352 c353 c356 c347 f343_0 f343_1 f343_2 f343_3 ge316 ge333 ne334 ne355 ne350 ne351 ne354 (by simp only [List.length_append, List.length_cons, List.length_nil]; omega) (hcd2) (hbd2)) hZ301 (hw _ (List.mem_of_getElem? (i := 142) rfl)) (hw _ (List.mem_of_getElem? (i := 122) rfl)) (by decide) (by decide)) q357a q357c (g := (mkF m 81 #[.val (.ref xl), .val (.ref ys)] [(.ref ys), (.ref b311)])) rfl (by rw [hml]; rfl) (Steps.refl _) (argsL := [(.ref ys)]) (rest := []) (lenOf pd_24 rfl) rfl (by show 2 * 0 + _ ≤ _; exact Nat.le_of_eq rfl) (hb hby d_prog_7_method_2_code_81) (fun _ _ => ⟨rfl, rfl, (by decide : 4 + 0 ≤ _), (by decide : 40 + 0 ≤ _)⟩)
  dsimp only [Pt.U, Pt.locs, Pt.cells, Pt.slots] at X357 l357 y357 z357 st357 hQ357
  subst l357 y357 z357
  obtain ⟨rfl, Nq357, K357, f357_0, f357_1, f357_2, f357_3⟩ := hQ357
  have N357 := Fr.app N343 Nq357
  have CR358 : CHr Z [("java/lang/String", 7)] s.vm h0 T301.vm T357.heap := CR344.trans (CHr.keep K357 (sfS sf345 (sfS sf346 sf0)) CR344.1)
  have sf359 : Safe Z [("java/lang/String", 7)] T301.vm T357.heap b311 := Safe.keep K357 (sfS sf345 (sfS sf346 sf0)) CR344.1 sf345
  have sf360 : Safe Z [("java/lang/String", 7)] T301.vm T357.heap va_317 := Safe.keep K357 (sfS sf345 (sfS sf346 sf0)) CR344.1 sf346
  have c361 : Exa Z T357.heap b311 "java/lang/StringBuilder" := (c347.keep K357)
  have c362 : Old Z n0 T357.heap := (c348.keep K357 (allS ge316 (allS ge333 all0)))
  obtain ⟨cq363, kq363, q363a, q363b, q363c⟩ := isOf hZ301 rfl c361
  obtain ⟨_, _, ⟨T363, L363, k363, n363⟩, -, X363, ⟨Lc363, hQ363, l363, y363, z363⟩, st363⟩ := X357.virtualBack hx (y := (⟨"java/lang/StringBuilder", "append", "(C)Ljava/lang/StringBuilder;"⟩ : MethodName)) (z := (⟨"java/lang/StringBuilder", "append", "(C)Ljava/lang/StringBuilder;"⟩ : MethodName)) hown301 (mvT hZ301 (hw _ (List.mem_of_getElem? (i := 176) rfl))) (mvT hZ301 (hw _ (List.mem_of_getElem? (i := 177) rfl))) (notFace_of_selects (args := #[]) (mvT hZ301 (hw _ (List.mem_of_getElem? (i := 179) rfl)))) (mvT hZ301 (hw _ (List.mem_of_getElem? (i := 179) rfl))) (mvT hZ301 (hw _ (List.mem_of_getElem? (i := 178) rfl))) (by decide) (backOf (W := 0) (rm_appC l Z a0 hw [] b311 (125 : Int32) va_317 ka_317 ([] ++ ds ++ [(123 : Int32)] ++ es) G T357.heap n0 (Nat.le_trans Z0 (Nat.le_trans (Nat.le_trans (Nat.le_trans (Nat.le_trans (Nat.le_trans E301.1 E311.1) K317.1) K337.1) K343.1) K357.1)) q0 hCS c362 c361 f357_0 f357_1 f357_2 f357_3 ge316 ge333 ne334 (by decide) (by simp only [List.length_append, List.length_cons, List.length_nil]; omega)) hZ301 (hw _ (List.mem_of_getElem? (i := 180) rfl)) (hw _ (List.mem_of_getElem? (i := 122) rfl)) (by decide) (by decide)) q363a q363c (g := (mkF m 86 #[.val (.ref xl), .val (.ref ys)] [(.int (125 : Int32)), (.ref b311)])) rfl (by rw [hml]; rfl) (Steps.refl _) (argsL := [(.int (125 : Int32))]) (rest := []) (lenOf pd_25 rfl) rfl (by show 2 * 0 + _ ≤ _; exact Nat.le_of_eq rfl) (hb hby d_prog_7_method_2_code_86) (fun _ _ => ⟨rfl, rfl, (by decide : 4 + 0 ≤ _), (by decide : 40 + 0 ≤ _)⟩)
  dsimp only [Pt.U, Pt.locs, Pt.cells, Pt.slots] at X363 l363 y363 z363 st363 hQ363
  subst l363 y363 z363
  obtain ⟨rfl, Nq363, K363, f363_0, f363_1, f363_2, f363_3⟩ := hQ363
  have N363 := Fr.app N357 Nq363
  have CR364 : CHr Z [("java/lang/String", 7)] s.vm h0 T301.vm T363.heap := CR358.trans (CHr.keep K363 (sfS sf359 (sfS sf360 sf0)) CR358.1)
  have sf365 : Safe Z [("java/lang/String", 7)] T301.vm T363.heap b311 := Safe.keep K363 (sfS sf359 (sfS sf360 sf0)) CR358.1 sf359
  have sf366 : Safe Z [("java/lang/String", 7)] T301.vm T363.heap va_317 := Safe.keep K363 (sfS sf359 (sfS sf360 sf0)) CR358.1 sf360
  have c367 : Exa Z T363.heap b311 "java/lang/StringBuilder" := (c361.keep K363)
  have c368 : Old Z n0 T363.heap := (c362.keep K363 (allS ge316 (allS ge333 all0)))
  obtain ⟨cq369, kq369, q369a, q369b, q369c⟩ := isOf hZ301 rfl c367
  obtain ⟨_, _, ⟨T369, L369, k369, n369⟩, -, X369, ⟨Lc369, hQ369, l369, y369, z369⟩, st369⟩ := X363.virtualBack hx (y := (⟨"java/lang/StringBuilder", "toString", "()Ljava/lang/String;"⟩ : MethodName)) (z := (⟨"java/lang/StringBuilder", "toString", "()Ljava/lang/String;"⟩ : MethodName)) hown301 (mvT hZ301 (hw _ (List.mem_of_getElem? (i := 193) rfl))) (mvT hZ301 (hw _ (List.mem_of_getElem? (i := 194) rfl))) (notFace_of_selects (args := #[]) (mvT hZ301 (hw _ (List.mem_of_getElem? (i := 196) rfl)))) (mvT hZ301 (hw _ (List.mem_of_getElem? (i := 196) rfl))) (mvT hZ301 (hw _ (List.mem_of_getElem? (i := 195) rfl))) (by decide) (backOf (W := 0) (rm_toStr l Z a0 hw [] b311 va_317 ka_317 ([] ++ ds ++ [(123 : Int32)] ++ es ++ [(125 : Int32)]) G T363.heap n0 (Nat.le_trans Z0 (Nat.le_trans (Nat.le_trans (Nat.le_trans (Nat.le_trans (Nat.le_trans (Nat.le_trans E301.1 E311.1) K317.1) K337.1) K343.1) K357.1) K363.1)) q0 hCS c368 c367 f363_0 f363_1 f363_2 f363_3 (by simp only [List.length_append, List.length_cons, List.length_nil]; omega)) hZ301 (hw _ (List.mem_of_getElem? (i := 197) rfl)) (hw _ (List.mem_of_getElem? (i := 122) rfl)) (by decide) (by decide)) q369a q369c (g := (mkF m 89 #[.val (.ref xl), .val (.ref ys)] [(.ref b311)])) rfl (by rw [hml]; rfl) (Steps.refl _) (argsL := []) (rest := []) (lenOf pd_26 rfl) rfl (by show 2 * 0 + _ ≤ _; exact Nat.le_of_eq rfl) (hb hby d_prog_7_method_2_code_89) (fun _ _ => ⟨rfl, rfl, (by decide : 4 + 2 ≤ _), (by decide : 40 + 20 ≤ _)⟩)
  dsimp only [Pt.U, Pt.locs, Pt.cells, Pt.slots] at X369 l369 y369 z369 st369 hQ369
  subst l369 y369 z369
  obtain ⟨xr_369, tt_369, kt_369, rfl, Nq369, K369, f369_0, f369_1, f369_2, f369_3, f369_4, f369_5⟩ := hQ369
  have N369 := Fr.app N363 Nq369
  have sf370 : Safe Z [("java/lang/String", 7)] T301.vm T363.heap xr_369 := Safe.new f369_0
  have sf371 : Safe Z [("java/lang/String", 7)] T301.vm T363.heap tt_369 := Safe.new f369_4
  have CR372 : CHr Z [("java/lang/String", 7)] s.vm h0 T301.vm T369.heap := CR364.trans (CHr.keep K369 sf0 CR364.1)
  have sf373 : Safe Z [("java/lang/String", 7)] T301.vm T369.heap b311 := Safe.keep K369 sf0 CR364.1 sf365
  have sf374 : Safe Z [("java/lang/String", 7)] T301.vm T369.heap va_317 := Safe.keep K369 sf0 CR364.1 sf366
  have sf375 : Safe Z [("java/lang/String", 7)] T301.vm T369.heap xr_369 := Safe.keep K369 sf0 CR364.1 sf370
  have sf376 : Safe Z [("java/lang/String", 7)] T301.vm T369.heap tt_369 := Safe.keep K369 sf0 CR364.1 sf371
  obtain ⟨fs, hr, hrun, hended, hEnd⟩ := X369.leaveW hS301 (Nat.le_trans hk301 (Nat.le_trans (Nat.le_trans (Nat.le_trans (Nat.le_trans (Nat.le_trans (Nat.le_trans E311.1 K317.1) K337.1) K343.1) K357.1) K363.1) K369.1)) (v := some (.ref xr_369)) (fun h => by rw [Bd.returns] at h; cases h)
  refine ⟨_, _, pre0 _ ?_, hrun, hended, _, _, rfl, ?_, (by rw [hh]; show CHr Z [("java/lang/String", 7)] s.vm h0 T369.vm T369.heap; exact CR372.trans (CHv.at X369 hZ301 (own_EW hw) CR372.1)), hEnd.1, hEnd.2.1, hEnd.2.2.1, hEnd.2.2.2.mono (by decide) (by decide)⟩
  · refine XS.aloadN X0.here hx rfl (hb hby d_prog_7_method_2_code_0) rfl rfl ?_
    show Steps p.tables e below (s₁.setTop (mkF m 1 #[.val (.ref xl), .val (.ref ys)] [(.ref ys)])) _
    refine st301 _ ?_
    show Steps p.tables e below (T301.setTop (mkF m 3 #[.val (.ref xl), .val (.ref ys)] [(.ref b301), (.ref ys)])) _
    refine st303 _ ?_
    show Steps p.tables e below (T303.setTop (mkF m 6 #[.val (.ref xl), .val (.ref ys)] [(.ref ys)])) _
    refine XS.pop X303.here hx rfl (hb hby d_prog_7_method_2_code_6) rfl rfl ?_
    show Steps p.tables e below (T303.setTop (mkF m 7 #[.val (.ref xl), .val (.ref ys)] [])) _
    refine XS.aloadN X303.here hx rfl (hb hby d_prog_7_method_2_code_7) rfl rfl ?_
    show Steps p.tables e below (T303.setTop (mkF m 8 #[.val (.ref xl), .val (.ref ys)] [(.ref ys)])) _
    refine st305.trans ?_
    show Steps p.tables e below (T305.setTop (mkF m 11 #[.val (.ref xl), .val (.ref ys)] [(.int (if (es).length = 0 then 1 else 0))])) _
    refine XS.ifYes X305.here hx rfl (pc0 := 11) (pc' := 24) rfl (hb hby d_prog_7_method_2_code_11) rfl ((if0 _ _).trans (teq ((if_neg (by omega)) : (if (es).length = 0 then 1 else 0) = (0 : Int32))).1) (by decide) (by decide) ?_
    show Steps p.tables e below (T305.setTop (mkF m 24 #[.val (.ref xl), .val (.ref ys)] [])) _
    refine XS.aloadN X305.here hx rfl (hb hby d_prog_7_method_2_code_24) rfl rfl ?_
    show Steps p.tables e below (T305.setTop (mkF m 25 #[.val (.ref xl), .val (.ref ys)] [(.ref ys)])) _
    refine XS.iconst X305.here hx rfl (hb hby d_prog_7_method_2_code_25) ?_
    show Steps p.tables e below (T305.setTop (mkF m 26 #[.val (.ref xl), .val (.ref ys)] [(.int (0 : Int32)), (.ref ys)])) _
    refine st310.trans ?_
    show Steps p.tables e below (T310.setTop (mkF m 29 #[.val (.ref xl), .val (.ref ys)] [(.int ((es).getD 0 0))])) _
    refine XS.bipush X310.here hx rfl (hb hby d_prog_7_method_2_code_29) ?_
    show Steps p.tables e below (T310.setTop (mkF m 31 #[.val (.ref xl), .val (.ref ys)] [(.int (125 : Int32)), (.int ((es).getD 0 0))])) _
    refine XS.icmpYes X310.here hx rfl (pc0 := 31) (pc' := 61) rfl (hb hby d_prog_7_method_2_code_31) rfl (feq (h125 : ¬ (((es).getD 0 0) = (125 : Int32)))).2 (by decide) (by decide) ?_
    show Steps p.tables e below (T310.setTop (mkF m 61 #[.val (.ref xl), .val (.ref ys)] [])) _
    refine st311 _ ?_
    show Steps p.tables e below (T311.setTop (mkF m 64 #[.val (.ref xl), .val (.ref ys)] [(.ref b311)])) _
    refine XS.dup X311.here hx rfl (hb hby d_prog_7_method_2_code_64) rfl rfl ?_
    show Steps p.tables e below (T311.setTop (mkF m 65 #[.val (.ref xl), .val (.ref ys)] [(.ref b311), (.ref b311)])) _
    refine st317.trans ?_
    show Steps p.tables e below (T317.setTop (mkF m 68 #[.val (.ref xl), .val (.ref ys)] [(.ref b311)])) _
    refine XS.aloadN X317.here hx rfl (hb hby d_prog_7_method_2_code_68) rfl rfl ?_
    show Steps p.tables e below (T317.setTop (mkF m 69 #[.val (.ref xl), .val (.ref ys)] [(.ref xl), (.ref b311)])) _
    refine st324 _ ?_
    show Steps p.tables e below (T324.setTop (mkF m 72 #[.val (.ref xl), .val (.ref ys)] [(.ref xs), (.ref b311)])) _
    refine st337.trans ?_
    show Steps p.tables e below (T337.setTop (mkF m 75 #[.val (.ref xl), .val (.ref ys)] [(.ref b311)])) _
    refine XS.bipush X337.here hx rfl (hb hby d_prog_7_method_2_code_75) ?_
    show Steps p.tables e below (T337.setTop (mkF m 77 #[.val (.ref xl), .val (.ref ys)] [(.int (123 : Int32)), (.ref b311)])) _
    refine st343.trans ?_
    show Steps p.tables e below (T343.setTop (mkF m 80 #[.val (.ref xl), .val (.ref ys)] [(.ref b311)])) _
    refine XS.aloadN X343.here hx rfl (hb hby d_prog_7_method_2_code_80) rfl rfl ?_
    show Steps p.tables e below (T343.setTop (mkF m 81 #[.val (.ref xl), .val (.ref ys)] [(.ref ys), (.ref b311)])) _
    refine st357.trans ?_
    show Steps p.tables e below (T357.setTop (mkF m 84 #[.val (.ref xl), .val (.ref ys)] [(.ref b311)])) _
    refine XS.bipush X357.here hx rfl (hb hby d_prog_7_method_2_code_84) ?_
    show Steps p.tables e below (T357.setTop (mkF m 86 #[.val (.ref xl), .val (.ref ys)] [(.int (125 : Int32)), (.ref b311)])) _
    refine st363.trans ?_
    show Steps p.tables e below (T363.setTop (mkF m 89 #[.val (.ref xl), .val (.ref ys)] [(.ref b311)])) _
    refine st369.trans ?_
    show Steps p.tables e below (T369.setTop (mkF m 92 #[.val (.ref xl), .val (.ref ys)] [(.ref xr_369)])) _
    jvm_step X369.here [X369.here.top, hx, (hb hby d_prog_7_method_2_code_92), X369.method', Bd.returns, Value.isRef, FieldType.isReference]
    first | (intro acts; rw [hr _ acts rfl rfl rfl]) | rw [hr _ _ rfl rfl rfl]
    exact Steps.refl _
  · show Q_lkK Z xl ys xs t1 k1 ds t2 k2 es G fm h0 n0 _ T369.heap _
    exact ⟨xr_369, tt_369, kt_369, rfl, N369, (((((((((Keep.refl h0 ([] : List Addr)).ext E301).ext E311).trans K317 (allS (Or.inr (Nat.le_trans E301.1 (Nat.le_of_eq g311.symm))) all0)).trans K337 (allS (Or.inr (Nat.le_trans E301.1 (Nat.le_of_eq g311.symm))) (allS (Or.inr (Nat.le_trans (Nat.le_trans E301.1 E311.1) f317_3)) all0))).trans K343 (allS (Or.inr (Nat.le_trans E301.1 (Nat.le_of_eq g311.symm))) (allS (Or.inr (Nat.le_trans (Nat.le_trans E301.1 E311.1) f317_3)) all0))).trans K357 (allS (Or.inr (Nat.le_trans E301.1 (Nat.le_of_eq g311.symm))) (allS (Or.inr (Nat.le_trans (Nat.le_trans E301.1 E311.1) f317_3)) all0))).trans K363 (allS (Or.inr (Nat.le_trans E301.1 (Nat.le_of_eq g311.symm))) (allS (Or.inr (Nat.le_trans (Nat.le_trans E301.1 E311.1) f317_3)) all0))).trans K369 all0), (Nat.le_trans (Nat.le_trans (Nat.le_trans (Nat.le_trans (Nat.le_trans (Nat.le_trans (Nat.le_trans E301.1 E311.1) K317.1) K337.1) K343.1) K357.1) K363.1) f369_0), f369_1, f369_2, f369_3, f369_5⟩
theorem d_method_6_code_0 : decode method_6_code 0 = .ok (.iload_n 0, 1) := by decide +kernel
theorem d_method_6_code_1 : decode method_6_code 1 = .ok (.iload_n 1, 1) := by decide +kernel
theorem d_method_6_code_2 : decode method_6_code 2 = .ok (.if_icmp .ge 7, 3) := by decide +kernel
theorem d_method_6_code_5 : decode method_6_code 5 = .ok (.aload_n 3, 1) := by decide +kernel
theorem d_method_6_code_6 : decode method_6_code 6 = .ok (.iload_n 0, 1) := by decide +kernel
theorem d_method_6_code_7 : decode method_6_code 7 = .ok (.caload, 1) := by decide +kernel
theorem d_method_6_code_8 : decode method_6_code 8 = .ok (.ireturn, 1) := by decide +kernel
theorem d_method_6_code_9 : decode method_6_code 9 = .ok (.iload_n 0, 1) := by decide +kernel
theorem d_method_6_code_10 : decode method_6_code 10 = .ok (.iload_n 1, 1) := by decide +kernel
theorem d_method_6_code_11 : decode method_6_code 11 = .ok (.if_icmp .ne 6, 3) := by decide +kernel
theorem d_method_6_code_14 : decode method_6_code 14 = .ok (.bipush 123, 2) := by decide +kernel
theorem d_method_6_code_16 : decode method_6_code 16 = .ok (.ireturn, 1) := by decide +kernel
theorem d_method_6_code_17 : decode method_6_code 17 = .ok (.iload_n 0, 1) := by decide +kernel
theorem d_method_6_code_18 : decode method_6_code 18 = .ok (.iload_n 1, 1) := by decide +kernel
theorem d_method_6_code_19 : decode method_6_code 19 = .ok (.isub, 1) := by decide +kernel
theorem d_method_6_code_20 : decode method_6_code 20 = .ok (.iconst 1, 1) := by decide +kernel
theorem d_method_6_code_21 : decode method_6_code 21 = .ok (.isub, 1) := by decide +kernel
theorem d_method_6_code_22 : decode method_6_code 22 = .ok (.istore 5, 2) := by decide +kernel
theorem d_method_6_code_24 : decode method_6_code 24 = .ok (.iload 5, 2) := by decide +kernel
theorem d_method_6_code_26 : decode method_6_code 26 = .ok (.iload_n 2, 1) := by decide +kernel
theorem d_method_6_code_27 : decode method_6_code 27 = .ok (.if_icmp .ge 9, 3) := by decide +kernel
theorem d_method_6_code_30 : decode method_6_code 30 = .ok (.aload 4, 2) := by decide +kernel
theorem d_method_6_code_32 : decode method_6_code 32 = .ok (.iload 5, 2) := by decide +kernel
theorem d_method_6_code_34 : decode method_6_code 34 = .ok (.caload, 1) := by decide +kernel
theorem d_method_6_code_35 : decode method_6_code 35 = .ok (.ireturn, 1) := by decide +kernel
theorem d_method_6_code_36 : decode method_6_code 36 = .ok (.bipush 125, 2) := by decide +kernel
theorem d_method_6_code_38 : decode method_6_code 38 = .ok (.ireturn, 1) := by decide +kernel
theorem ef_17 (m : MethodId) (x0 : Int32) (x1 : Int32) (x2 : Int32) (x3 : Addr) (x4 : Addr) : entryFrame m #[(.int x0), (.int x1), (.int x2), (.ref x3), (.ref x4)] 6 = mkF m 0 #[.val (.int x0), .val (.int x1), .val (.int x2), .val (.ref x3), .val (.ref x4), .unset] [] := by first | (simp [entryFrame, mkF, argsToLocals, Value.category]; done) | rfl
def Q_expd (Z : State) (ii : Nat) (pl : Nat) (nl : Nat) (pc_ : Addr) (nc_ : Addr) (kp : ClassId) (kn : ClassId) (ps : List Int32) (ns : List Int32) (h0 : Heap) (n0 : Nat) (v : Option Value) (h : Heap) (L : List Loc) : Prop := (v = some (.int ((ps.take pl ++ [(123 : Int32)] ++ ns.take nl ++ [(125 : Int32)]).getD ii 0))) ∧ (Fr n0 L) ∧ (h = h0)
set_option maxRecDepth 65536 in
set_option maxHeartbeats 40000000 in
theorem rm_expd (l : Launch) (Z : State) (a0 : Array Value) (hw : ∀ d ∈ tables_1, d.before a0 Z = true) (ws : List Jvm.Cond) (ii : Nat) (pl : Nat) (nl : Nat) (pc_ : Addr) (nc_ : Addr) (kp : ClassId) (kn : ClassId) (ps : List Int32) (ns : List Int32) (h0 : Heap) (n0 : Nat) (Z0 : n0 ≤ h0.size) (q0 : Arv Z h0 pc_ kp .char (3 : Int32) (ps.map Value.int) (.int (0 : Int32))) (q1 : Arv Z h0 nc_ kn .char (3 : Int32) (ns.map Value.int) (.int (0 : Int32))) (hps : ps.length = 3 ∧ ∀ c ∈ ps, own_L c) (hns : ns.length = 3 ∧ ∀ c ∈ ns, own_L c) (hpl : pl ≤ 3) (hnl : nl ≤ 3) (hii : ii < pl + nl + 2) :
    MetFree l (⟨"com/example/holdfast/holdfast/redis/LockKeysLockKeyPinLaw", "expected", "(III[C[C)C"⟩ : MethodName) (head1 (Jvm.Cond.code (⟨"com/example/holdfast/holdfast/redis/LockKeysLockKeyPinLaw", "expected", "(III[C[C)C"⟩ : MethodName) method_6_code 6 (some .char) :: ws) ({ frames := 0, cells := 0, slots := 0, locals := 0 } : Room)) (fun a₁ U₁ => a₁ = #[(.int (Int32.ofNat ii)), (.int (Int32.ofNat pl)), (.int (Int32.ofNat nl)), (.ref pc_), (.ref nc_)] ∧ Z.Warmed39 U₁.vm ∧ U₁.heap = h0) (fun _ _ _ _ _ => True) (fun _ U₁ o₁ U₂ => ∃ v₁ L₁, o₁ = .returned v₁ ∧ Q_expd Z ii pl nl pc_ nc_ kp kn ps ns h0 n0 v₁ U₂.heap L₁ ∧ FrameEnd U₁ o₁ U₂ L₁ ({ frames := 0, cells := 0, slots := 0, locals := 0 } : Room).cells ({ frames := 0, cells := 0, slots := 0, locals := 0 } : Room).slots) := by
  refine MetFree.of_bodySF (plainFor_of_name pn_5) hisR ?_
  intro p e s m args below meth c s₁ Bd hml0 hP hK
  obtain ⟨rfl, hZ, hh⟩ := hP
  have hx := Bd.exec
  have hby := Bd.bytes
  have hml : c.maxLocals = 6 := hml0
  have hown : s.vm.findClass "com/example/holdfast/holdfast/redis/LockKeysLockKeyPinLaw" = some m.cls := findClass_of_methodNamed Bd.named
  have hnm := (name_of_methodNamed Bd.named Bd.method).1
  have X0 : Stand p l e ({ frames := 0, cells := 0, slots := 0, locals := 0 } : Room) s m #[(.int (Int32.ofNat ii)), (.int (Int32.ofNat pl)), (.int (Int32.ofNat nl)), (.ref pc_), (.ref nc_)] below meth c s₁ [] 0 0 := Stand.of_body Bd
  have e0 : s₁.heap = h0 := by rw [← hh, Bd.state]; rfl
  have N0 := Fr.nil n0
  have pre0 : ∀ t, Steps p.tables e below (s₁.setTop (mkF m 0 #[.val (.int (Int32.ofNat ii)), .val (.int (Int32.ofNat pl)), .val (.int (Int32.ofNat nl)), .val (.ref pc_), .val (.ref nc_), .unset] [])) t → Steps p.tables e below (s₁.setTop (entryFrame m #[(.int (Int32.ofNat ii)), (.int (Int32.ofNat pl)), (.int (Int32.ofNat nl)), (.ref pc_), (.ref nc_)] 6)) t := fun t k => castTop (ef_17 m (Int32.ofNat ii) (Int32.ofNat pl) (Int32.ofNat nl) pc_ nc_) k
  have pre301 : ∀ t, Steps p.tables e below (s₁.setTop (mkF m 2 #[.val (.int (Int32.ofNat ii)), .val (.int (Int32.ofNat pl)), .val (.int (Int32.ofNat nl)), .val (.ref pc_), .val (.ref nc_), .unset] [(.int (Int32.ofNat pl)), (.int (Int32.ofNat ii))])) t → Steps p.tables e below (s₁.setTop (entryFrame m #[(.int (Int32.ofNat ii)), (.int (Int32.ofNat pl)), (.int (Int32.ofNat nl)), (.ref pc_), (.ref nc_)] 6)) t := fun t kk => pre0 t (by
    refine XS.iloadN X0.here hx rfl (hb hby d_method_6_code_0) rfl ?_
    show Steps p.tables e below (s₁.setTop (mkF m 1 #[.val (.int (Int32.ofNat ii)), .val (.int (Int32.ofNat pl)), .val (.int (Int32.ofNat nl)), .val (.ref pc_), .val (.ref nc_), .unset] [(.int (Int32.ofNat ii))])) _
    refine XS.iloadN X0.here hx rfl (hb hby d_method_6_code_1) rfl ?_
    show Steps p.tables e below (s₁.setTop (mkF m 2 #[.val (.int (Int32.ofNat ii)), .val (.int (Int32.ofNat pl)), .val (.int (Int32.ofNat nl)), .val (.ref pc_), .val (.ref nc_), .unset] [(.int (Int32.ofNat pl)), (.int (Int32.ofNat ii))])) _
    exact kk)
  by_cases g1 : ii < pl
  · have ev : ((ps.take pl ++ [(123 : Int32)] ++ ns.take nl ++ [(125 : Int32)]).getD ii 0) = ps.getD ii 0 := own_e1 hps.1 hpl g1
    obtain ⟨cl302, Ar302, qq302, S302, M302, Hh302, U302⟩ := id q0
    have ib302 : ¬ ((Int32.ofNat ii) < 0 ∨ cl302.slots.size ≤ ((Int32.ofNat ii)).toNatClampNeg) := inb_of S302 (own_inb (n := 3) (by omega) (by omega))
    obtain ⟨fs, hr, hrun, hended, hW, hsame⟩ := X0.leave (v := some (.int (ps.getD ii 0))) (fun h => by rw [Bd.returns] at h; cases h)
    refine ⟨_, _, pre301 _ ?_, hrun, hended, _, _, rfl, ?_, ⟨_, rfl⟩, hW, hsame.mono (by decide) (by decide)⟩
    · refine XS.icmpNo X0.here hx rfl (hb hby d_method_6_code_2) rfl (tlt ((own_inb g1 (by omega)).2 : (Int32.ofNat ii) < (Int32.ofNat pl))).2.1 ?_
      show Steps p.tables e below (s₁.setTop (mkF m 5 #[.val (.int (Int32.ofNat ii)), .val (.int (Int32.ofNat pl)), .val (.int (Int32.ofNat nl)), .val (.ref pc_), .val (.ref nc_), .unset] [])) _
      refine XS.aloadN X0.here hx rfl (hb hby d_method_6_code_5) rfl rfl ?_
      show Steps p.tables e below (s₁.setTop (mkF m 6 #[.val (.int (Int32.ofNat ii)), .val (.int (Int32.ofNat pl)), .val (.int (Int32.ofNat nl)), .val (.ref pc_), .val (.ref nc_), .unset] [(.ref pc_)])) _
      refine XS.iloadN X0.here hx rfl (hb hby d_method_6_code_6) rfl ?_
      show Steps p.tables e below (s₁.setTop (mkF m 7 #[.val (.int (Int32.ofNat ii)), .val (.int (Int32.ofNat pl)), .val (.int (Int32.ofNat nl)), .val (.ref pc_), .val (.ref nc_), .unset] [(.int (Int32.ofNat ii)), (.ref pc_)])) _
      refine X0.caload hx (j := (Int32.ofNat ii)) (v := (.int (ps.getD ii 0))) (by rw [e0]; exact Ar302.1) (State.isArrayOf_alike hZ.alike Ar302.2.1) Ar302.2.2 ib302 (Hh302.at ib302 (own_mapat (by omega) (by omega))) (g := (mkF m 7 #[.val (.int (Int32.ofNat ii)), .val (.int (Int32.ofNat pl)), .val (.int (Int32.ofNat nl)), .val (.ref pc_), .val (.ref nc_), .unset] [(.int (Int32.ofNat ii)), (.ref pc_)])) rfl rfl (hb hby d_method_6_code_7) _ ?_
      show Steps p.tables e below (s₁.setTop (mkF m 8 #[.val (.int (Int32.ofNat ii)), .val (.int (Int32.ofNat pl)), .val (.int (Int32.ofNat nl)), .val (.ref pc_), .val (.ref nc_), .unset] [(.int (ps.getD ii 0))])) _
      exact retN X0 hx (t := .char) Bd.returns (by simp) (hb hby d_method_6_code_8) (by rw [(hps.2 _ (own_getmem (by omega))).1]; exact hr)
    · show Q_expd Z ii pl nl pc_ nc_ kp kn ps ns h0 n0 _ s₁.heap _
      rw [e0]
      exact ⟨(by rw [ev]), N0, rfl⟩
  · have pre303 : ∀ t, Steps p.tables e below (s₁.setTop (mkF m 11 #[.val (.int (Int32.ofNat ii)), .val (.int (Int32.ofNat pl)), .val (.int (Int32.ofNat nl)), .val (.ref pc_), .val (.ref nc_), .unset] [(.int (Int32.ofNat pl)), (.int (Int32.ofNat ii))])) t → Steps p.tables e below (s₁.setTop (entryFrame m #[(.int (Int32.ofNat ii)), (.int (Int32.ofNat pl)), (.int (Int32.ofNat nl)), (.ref pc_), (.ref nc_)] 6)) t := fun t kk => pre301 t (by
      refine XS.icmpYes X0.here hx rfl (pc0 := 2) (pc' := 9) rfl (hb hby d_method_6_code_2) rfl (flt ((own_nlt (by omega) (by omega)) : ¬ ((Int32.ofNat ii) < (Int32.ofNat pl)))).2.1 (by decide) (by decide) ?_
      show Steps p.tables e below (s₁.setTop (mkF m 9 #[.val (.int (Int32.ofNat ii)), .val (.int (Int32.ofNat pl)), .val (.int (Int32.ofNat nl)), .val (.ref pc_), .val (.ref nc_), .unset] [])) _
      refine XS.iloadN X0.here hx rfl (hb hby d_method_6_code_9) rfl ?_
      show Steps p.tables e below (s₁.setTop (mkF m 10 #[.val (.int (Int32.ofNat ii)), .val (.int (Int32.ofNat pl)), .val (.int (Int32.ofNat nl)), .val (.ref pc_), .val (.ref nc_), .unset] [(.int (Int32.ofNat ii))])) _
      refine XS.iloadN X0.here hx rfl (hb hby d_method_6_code_10) rfl ?_
      show Steps p.tables e below (s₁.setTop (mkF m 11 #[.val (.int (Int32.ofNat ii)), .val (.int (Int32.ofNat pl)), .val (.int (Int32.ofNat nl)), .val (.ref pc_), .val (.ref nc_), .unset] [(.int (Int32.ofNat pl)), (.int (Int32.ofNat ii))])) _
      exact kk)
    by_cases g2 : ii = pl
    · have ev : ((ps.take pl ++ [(123 : Int32)] ++ ns.take nl ++ [(125 : Int32)]).getD ii 0) = (123 : Int32) := own_e2 hps.1 hpl g2
      obtain ⟨fs, hr, hrun, hended, hW, hsame⟩ := X0.leave (v := some (.int (123 : Int32))) (fun h => by rw [Bd.returns] at h; cases h)
      refine ⟨_, _, pre303 _ ?_, hrun, hended, _, _, rfl, ?_, ⟨_, rfl⟩, hW, hsame.mono (by decide) (by decide)⟩
      · refine XS.icmpNo X0.here hx rfl (hb hby d_method_6_code_11) rfl (teq ((congrArg Int32.ofNat g2) : (Int32.ofNat ii) = (Int32.ofNat pl))).2 ?_
        show Steps p.tables e below (s₁.setTop (mkF m 14 #[.val (.int (Int32.ofNat ii)), .val (.int (Int32.ofNat pl)), .val (.int (Int32.ofNat nl)), .val (.ref pc_), .val (.ref nc_), .unset] [])) _
        refine XS.bipush X0.here hx rfl (hb hby d_method_6_code_14) ?_
        show Steps p.tables e below (s₁.setTop (mkF m 16 #[.val (.int (Int32.ofNat ii)), .val (.int (Int32.ofNat pl)), .val (.int (Int32.ofNat nl)), .val (.ref pc_), .val (.ref nc_), .unset] [(.int (123 : Int32))])) _
        exact retN X0 hx (t := .char) Bd.returns (by simp) (hb hby d_method_6_code_16) hr
      · show Q_expd Z ii pl nl pc_ nc_ kp kn ps ns h0 n0 _ s₁.heap _
        rw [e0]
        exact ⟨(by rw [ev]), N0, rfl⟩
    · have pre304 : ∀ t, Steps p.tables e below (s₁.setTop (mkF m 27 #[.val (.int (Int32.ofNat ii)), .val (.int (Int32.ofNat pl)), .val (.int (Int32.ofNat nl)), .val (.ref pc_), .val (.ref nc_), .val (.int (Int32.ofNat (ii - pl - 1)))] [(.int (Int32.ofNat nl)), (.int (Int32.ofNat (ii - pl - 1)))])) t → Steps p.tables e below (s₁.setTop (entryFrame m #[(.int (Int32.ofNat ii)), (.int (Int32.ofNat pl)), (.int (Int32.ofNat nl)), (.ref pc_), (.ref nc_)] 6)) t := fun t kk => pre303 t (by
        refine XS.icmpYes X0.here hx rfl (pc0 := 11) (pc' := 17) rfl (hb hby d_method_6_code_11) rfl (feq ((fun q => g2 (own_oinj (by omega) (by omega) q)) : ¬ ((Int32.ofNat ii) = (Int32.ofNat pl)))).2 (by decide) (by decide) ?_
        show Steps p.tables e below (s₁.setTop (mkF m 17 #[.val (.int (Int32.ofNat ii)), .val (.int (Int32.ofNat pl)), .val (.int (Int32.ofNat nl)), .val (.ref pc_), .val (.ref nc_), .unset] [])) _
        refine XS.iloadN X0.here hx rfl (hb hby d_method_6_code_17) rfl ?_
        show Steps p.tables e below (s₁.setTop (mkF m 18 #[.val (.int (Int32.ofNat ii)), .val (.int (Int32.ofNat pl)), .val (.int (Int32.ofNat nl)), .val (.ref pc_), .val (.ref nc_), .unset] [(.int (Int32.ofNat ii))])) _
        refine XS.iloadN X0.here hx rfl (hb hby d_method_6_code_18) rfl ?_
        show Steps p.tables e below (s₁.setTop (mkF m 19 #[.val (.int (Int32.ofNat ii)), .val (.int (Int32.ofNat pl)), .val (.int (Int32.ofNat nl)), .val (.ref pc_), .val (.ref nc_), .unset] [(.int (Int32.ofNat pl)), (.int (Int32.ofNat ii))])) _
        refine XS.isub X0.here hx rfl (hb hby d_method_6_code_19) rfl ?_
        show Steps p.tables e below (s₁.setTop (mkF m 20 #[.val (.int (Int32.ofNat ii)), .val (.int (Int32.ofNat pl)), .val (.int (Int32.ofNat nl)), .val (.ref pc_), .val (.ref nc_), .unset] [(.int ((Int32.ofNat ii) - (Int32.ofNat pl)))])) _
        refine XS.iconst X0.here hx rfl (hb hby d_method_6_code_20) ?_
        show Steps p.tables e below (s₁.setTop (mkF m 21 #[.val (.int (Int32.ofNat ii)), .val (.int (Int32.ofNat pl)), .val (.int (Int32.ofNat nl)), .val (.ref pc_), .val (.ref nc_), .unset] [(.int (1 : Int32)), (.int ((Int32.ofNat ii) - (Int32.ofNat pl)))])) _
        refine XS.isub X0.here hx rfl (hb hby d_method_6_code_21) rfl ?_
        show Steps p.tables e below (s₁.setTop (mkF m 22 #[.val (.int (Int32.ofNat ii)), .val (.int (Int32.ofNat pl)), .val (.int (Int32.ofNat nl)), .val (.ref pc_), .val (.ref nc_), .unset] [(.int (((Int32.ofNat ii) - (Int32.ofNat pl)) - (1 : Int32)))])) _
        rw [own_subn (show pl < ii by omega) (by omega)]
        show Steps p.tables e below (s₁.setTop (mkF m 22 #[.val (.int (Int32.ofNat ii)), .val (.int (Int32.ofNat pl)), .val (.int (Int32.ofNat nl)), .val (.ref pc_), .val (.ref nc_), .unset] [(.int (Int32.ofNat (ii - pl - 1)))])) _
        refine XS.istore X0.here hx rfl (hb hby d_method_6_code_22) rfl (l' := #[.val (.int (Int32.ofNat ii)), .val (.int (Int32.ofNat pl)), .val (.int (Int32.ofNat nl)), .val (.ref pc_), .val (.ref nc_), .val (.int (Int32.ofNat (ii - pl - 1)))]) rfl ?_
        show Steps p.tables e below (s₁.setTop (mkF m 24 #[.val (.int (Int32.ofNat ii)), .val (.int (Int32.ofNat pl)), .val (.int (Int32.ofNat nl)), .val (.ref pc_), .val (.ref nc_), .val (.int (Int32.ofNat (ii - pl - 1)))] [])) _
        refine XS.iload X0.here hx rfl (hb hby d_method_6_code_24) rfl ?_
        show Steps p.tables e below (s₁.setTop (mkF m 26 #[.val (.int (Int32.ofNat ii)), .val (.int (Int32.ofNat pl)), .val (.int (Int32.ofNat nl)), .val (.ref pc_), .val (.ref nc_), .val (.int (Int32.ofNat (ii - pl - 1)))] [(.int (Int32.ofNat (ii - pl - 1)))])) _
        refine XS.iloadN X0.here hx rfl (hb hby d_method_6_code_26) rfl ?_
        show Steps p.tables e below (s₁.setTop (mkF m 27 #[.val (.int (Int32.ofNat ii)), .val (.int (Int32.ofNat pl)), .val (.int (Int32.ofNat nl)), .val (.ref pc_), .val (.ref nc_), .val (.int (Int32.ofNat (ii - pl - 1)))] [(.int (Int32.ofNat nl)), (.int (Int32.ofNat (ii - pl - 1)))])) _
        exact kk)
      by_cases g3 : ii - pl - 1 < nl
      · have ev : ((ps.take pl ++ [(123 : Int32)] ++ ns.take nl ++ [(125 : Int32)]).getD ii 0) = ns.getD (ii - pl - 1) 0 := own_e3 hps.1 hns.1 hpl hnl (by omega) g3
        obtain ⟨cl305, Ar305, qq305, S305, M305, Hh305, U305⟩ := id q1
        have ib305 : ¬ ((Int32.ofNat (ii - pl - 1)) < 0 ∨ cl305.slots.size ≤ ((Int32.ofNat (ii - pl - 1))).toNatClampNeg) := inb_of S305 (own_inb (n := 3) (by omega) (by omega))
        obtain ⟨fs, hr, hrun, hended, hW, hsame⟩ := X0.leave (v := some (.int (ns.getD (ii - pl - 1) 0))) (fun h => by rw [Bd.returns] at h; cases h)
        refine ⟨_, _, pre304 _ ?_, hrun, hended, _, _, rfl, ?_, ⟨_, rfl⟩, hW, hsame.mono (by decide) (by decide)⟩
        · refine XS.icmpNo X0.here hx rfl (hb hby d_method_6_code_27) rfl (tlt ((own_inb g3 (by omega)).2 : (Int32.ofNat (ii - pl - 1)) < (Int32.ofNat nl))).2.1 ?_
          show Steps p.tables e below (s₁.setTop (mkF m 30 #[.val (.int (Int32.ofNat ii)), .val (.int (Int32.ofNat pl)), .val (.int (Int32.ofNat nl)), .val (.ref pc_), .val (.ref nc_), .val (.int (Int32.ofNat (ii - pl - 1)))] [])) _
          refine XS.aload X0.here hx rfl (hb hby d_method_6_code_30) rfl rfl ?_
          show Steps p.tables e below (s₁.setTop (mkF m 32 #[.val (.int (Int32.ofNat ii)), .val (.int (Int32.ofNat pl)), .val (.int (Int32.ofNat nl)), .val (.ref pc_), .val (.ref nc_), .val (.int (Int32.ofNat (ii - pl - 1)))] [(.ref nc_)])) _
          refine XS.iload X0.here hx rfl (hb hby d_method_6_code_32) rfl ?_
          show Steps p.tables e below (s₁.setTop (mkF m 34 #[.val (.int (Int32.ofNat ii)), .val (.int (Int32.ofNat pl)), .val (.int (Int32.ofNat nl)), .val (.ref pc_), .val (.ref nc_), .val (.int (Int32.ofNat (ii - pl - 1)))] [(.int (Int32.ofNat (ii - pl - 1))), (.ref nc_)])) _
          refine X0.caload hx (j := (Int32.ofNat (ii - pl - 1))) (v := (.int (ns.getD (ii - pl - 1) 0))) (by rw [e0]; exact Ar305.1) (State.isArrayOf_alike hZ.alike Ar305.2.1) Ar305.2.2 ib305 (Hh305.at ib305 (own_mapat (by omega) (by omega))) (g := (mkF m 34 #[.val (.int (Int32.ofNat ii)), .val (.int (Int32.ofNat pl)), .val (.int (Int32.ofNat nl)), .val (.ref pc_), .val (.ref nc_), .val (.int (Int32.ofNat (ii - pl - 1)))] [(.int (Int32.ofNat (ii - pl - 1))), (.ref nc_)])) rfl rfl (hb hby d_method_6_code_34) _ ?_
          show Steps p.tables e below (s₁.setTop (mkF m 35 #[.val (.int (Int32.ofNat ii)), .val (.int (Int32.ofNat pl)), .val (.int (Int32.ofNat nl)), .val (.ref pc_), .val (.ref nc_), .val (.int (Int32.ofNat (ii - pl - 1)))] [(.int (ns.getD (ii - pl - 1) 0))])) _
          exact retN X0 hx (t := .char) Bd.returns (by simp) (hb hby d_method_6_code_35) (by rw [(hns.2 _ (own_getmem (by omega))).1]; exact hr)
        · show Q_expd Z ii pl nl pc_ nc_ kp kn ps ns h0 n0 _ s₁.heap _
          rw [e0]
          exact ⟨(by rw [ev]), N0, rfl⟩
      · have ev : ((ps.take pl ++ [(123 : Int32)] ++ ns.take nl ++ [(125 : Int32)]).getD ii 0) = (125 : Int32) := own_e4 hps.1 hns.1 hpl hnl (by omega) (by omega)
        obtain ⟨fs, hr, hrun, hended, hW, hsame⟩ := X0.leave (v := some (.int (125 : Int32))) (fun h => by rw [Bd.returns] at h; cases h)
        refine ⟨_, _, pre304 _ ?_, hrun, hended, _, _, rfl, ?_, ⟨_, rfl⟩, hW, hsame.mono (by decide) (by decide)⟩
        · refine XS.icmpYes X0.here hx rfl (pc0 := 27) (pc' := 36) rfl (hb hby d_method_6_code_27) rfl (flt ((own_nlt (by omega) (by omega)) : ¬ ((Int32.ofNat (ii - pl - 1)) < (Int32.ofNat nl)))).2.1 (by decide) (by decide) ?_
          show Steps p.tables e below (s₁.setTop (mkF m 36 #[.val (.int (Int32.ofNat ii)), .val (.int (Int32.ofNat pl)), .val (.int (Int32.ofNat nl)), .val (.ref pc_), .val (.ref nc_), .val (.int (Int32.ofNat (ii - pl - 1)))] [])) _
          refine XS.bipush X0.here hx rfl (hb hby d_method_6_code_36) ?_
          show Steps p.tables e below (s₁.setTop (mkF m 38 #[.val (.int (Int32.ofNat ii)), .val (.int (Int32.ofNat pl)), .val (.int (Int32.ofNat nl)), .val (.ref pc_), .val (.ref nc_), .val (.int (Int32.ofNat (ii - pl - 1)))] [(.int (125 : Int32))])) _
          exact retN X0 hx (t := .char) Bd.returns (by simp) (hb hby d_method_6_code_38) hr
        · show Q_expd Z ii pl nl pc_ nc_ kp kn ps ns h0 n0 _ s₁.heap _
          rw [e0]
          exact ⟨(by rw [ev]), N0, rfl⟩
theorem d_method_5_code_0 : decode method_5_code 0 = .ok (.iload_n 1, 1) := by decide +kernel
theorem d_method_5_code_1 : decode method_5_code 1 = .ok (.iload_n 2, 1) := by decide +kernel
theorem d_method_5_code_2 : decode method_5_code 2 = .ok (.if_icmp .lt 5, 3) := by decide +kernel
theorem d_method_5_code_5 : decode method_5_code 5 = .ok (.iconst 1, 1) := by decide +kernel
theorem d_method_5_code_6 : decode method_5_code 6 = .ok (.ireturn, 1) := by decide +kernel
theorem d_method_5_code_7 : decode method_5_code 7 = .ok (.aload_n 0, 1) := by decide +kernel
theorem d_method_5_code_8 : decode method_5_code 8 = .ok (.iload_n 1, 1) := by decide +kernel
theorem d_method_5_code_9 : decode method_5_code 9 = .ok (.invokevirtual 39, 3) := by decide +kernel
theorem d_method_5_code_12 : decode method_5_code 12 = .ok (.iload_n 1, 1) := by decide +kernel
theorem d_method_5_code_13 : decode method_5_code 13 = .ok (.iload_n 3, 1) := by decide +kernel
theorem d_method_5_code_14 : decode method_5_code 14 = .ok (.iload 4, 2) := by decide +kernel
theorem d_method_5_code_16 : decode method_5_code 16 = .ok (.aload 5, 2) := by decide +kernel
theorem d_method_5_code_18 : decode method_5_code 18 = .ok (.aload 6, 2) := by decide +kernel
theorem d_method_5_code_20 : decode method_5_code 20 = .ok (.invokestatic 42, 3) := by decide +kernel
theorem pd_27 : parseMethodDescriptor "(III[C[C)C" = some ⟨[.int, .int, .int, (.array .char), (.array .char)], some .char⟩ := by decide +kernel
theorem d_method_5_code_23 : decode method_5_code 23 = .ok (.if_icmp .ne 7, 3) := by decide +kernel
theorem d_method_5_code_26 : decode method_5_code 26 = .ok (.iconst 1, 1) := by decide +kernel
theorem d_method_5_code_27 : decode method_5_code 27 = .ok (.goto 4, 3) := by decide +kernel
theorem d_method_5_code_31 : decode method_5_code 31 = .ok (.ireturn, 1) := by decide +kernel
theorem ef_18 (m : MethodId) (x0 : Addr) (x1 : Int32) (x2 : Int32) (x3 : Int32) (x4 : Int32) (x5 : Addr) (x6 : Addr) : entryFrame m #[(.ref x0), (.int x1), (.int x2), (.int x3), (.int x4), (.ref x5), (.ref x6)] 7 = mkF m 0 #[.val (.ref x0), .val (.int x1), .val (.int x2), .val (.int x3), .val (.int x4), .val (.ref x5), .val (.ref x6)] [] := by first | (simp [entryFrame, mkF, argsToLocals, Value.category]; done) | rfl
def Q_at (Z : State) (xs : Addr) (ln : Nat) (t1 : Addr) (k1 : ClassId) (G : Int32) (fm : Value) (ii : Nat) (pl : Nat) (nl : Nat) (pc_ : Addr) (nc_ : Addr) (kp : ClassId) (kn : ClassId) (ps : List Int32) (ns : List Int32) (h0 : Heap) (n0 : Nat) (v : Option Value) (h : Heap) (L : List Loc) : Prop := (v = some (.int (1 : Int32))) ∧ (Fr n0 L) ∧ (h = h0)
set_option maxRecDepth 65536 in
set_option maxHeartbeats 40000000 in
theorem rm_at (l : Launch) (Z : State) (a0 : Array Value) (hw : ∀ d ∈ tables_1, d.before a0 Z = true) (ws : List Jvm.Cond) (xs : Addr) (ln : Nat) (t1 : Addr) (k1 : ClassId) (G : Int32) (fm : Value) (ii : Nat) (pl : Nat) (nl : Nat) (pc_ : Addr) (nc_ : Addr) (kp : ClassId) (kn : ClassId) (ps : List Int32) (ns : List Int32) (h0 : Heap) (n0 : Nat) (Z0 : n0 ≤ h0.size) (q0 : Sta Z Z.heap "java/lang/String" "COMPACT_STRINGS" "Z" (.int G)) (hCS : ¬ (G = (0 : Int32))) (q2 : Sta Z Z.heap "jdk/internal/util/Preconditions" "SIOOBE_FORMATTER" "Ljava/util/function/BiFunction;" fm) (hFM : fm.isRef = true) (q4 : Old Z n0 h0) (q5 : Exa Z h0 xs "java/lang/String") (q6 : Fld Z h0 xs "java/lang/String" "value" "[B" (.ref t1)) (q7 : Fld Z h0 xs "java/lang/String" "coder" "B" (.int (0 : Int32))) (q8 : Arv Z h0 t1 k1 .byte (Int32.ofNat (ps.take pl ++ [(123 : Int32)] ++ ns.take nl ++ [(125 : Int32)]).length) (own_bs (ps.take pl ++ [(123 : Int32)] ++ ns.take nl ++ [(125 : Int32)])) (.int (0 : Int32))) (hcd1 : StrChars.Road.CodA (ps.take pl ++ [(123 : Int32)] ++ ns.take nl ++ [(125 : Int32)]) 0 (Int32.ofNat (ps.take pl ++ [(123 : Int32)] ++ ns.take nl ++ [(125 : Int32)]).length) (own_bs (ps.take pl ++ [(123 : Int32)] ++ ns.take nl ++ [(125 : Int32)]))) (hbd1 : ∀ c ∈ (ps.take pl ++ [(123 : Int32)] ++ ns.take nl ++ [(125 : Int32)]), ¬ c < 0 ∧ ¬ (65535 : Int32) < c) (hln : ln = pl + nl + 2) (hi8 : ii < 8) (q13 : Arv Z h0 pc_ kp .char (3 : Int32) (ps.map Value.int) (.int (0 : Int32))) (q14 : Arv Z h0 nc_ kn .char (3 : Int32) (ns.map Value.int) (.int (0 : Int32))) (hps : ps.length = 3 ∧ ∀ c ∈ ps, own_L c) (hns : ns.length = 3 ∧ ∀ c ∈ ns, own_L c) (hpl : pl ≤ 3) (hnl : nl ≤ 3) :
    MetFree l (⟨"com/example/holdfast/holdfast/redis/LockKeysLockKeyPinLaw", "at", "(Ljava/lang/String;IIII[C[C)Z"⟩ : MethodName) (head1 (Jvm.Cond.code (⟨"com/example/holdfast/holdfast/redis/LockKeysLockKeyPinLaw", "at", "(Ljava/lang/String;IIII[C[C)Z"⟩ : MethodName) method_5_code 7 (some .boolean) :: ws) ({ frames := 4, cells := 0, slots := 0, locals := 53 } : Room)) (fun a₁ U₁ => a₁ = #[(.ref xs), (.int (Int32.ofNat ii)), (.int (Int32.ofNat ln)), (.int (Int32.ofNat pl)), (.int (Int32.ofNat nl)), (.ref pc_), (.ref nc_)] ∧ Z.Warmed39 U₁.vm ∧ U₁.heap = h0) (fun _ _ _ _ _ => True) (fun _ U₁ o₁ U₂ => ∃ v₁ L₁, o₁ = .returned v₁ ∧ Q_at Z xs ln t1 k1 G fm ii pl nl pc_ nc_ kp kn ps ns h0 n0 v₁ U₂.heap L₁ ∧ FrameEnd U₁ o₁ U₂ L₁ ({ frames := 4, cells := 0, slots := 0, locals := 53 } : Room).cells ({ frames := 4, cells := 0, slots := 0, locals := 53 } : Room).slots) := by
  refine MetFree.of_bodySF (plainFor_of_name pn_5) hisR ?_
  intro p e s m args below meth c s₁ Bd hml0 hP hK
  obtain ⟨rfl, hZ, hh⟩ := hP
  have hx := Bd.exec
  have hby := Bd.bytes
  have hml : c.maxLocals = 7 := hml0
  have hown : s.vm.findClass "com/example/holdfast/holdfast/redis/LockKeysLockKeyPinLaw" = some m.cls := findClass_of_methodNamed Bd.named
  have hnm := (name_of_methodNamed Bd.named Bd.method).1
  have X0 : Stand p l e ({ frames := 4, cells := 0, slots := 0, locals := 53 } : Room) s m #[(.ref xs), (.int (Int32.ofNat ii)), (.int (Int32.ofNat ln)), (.int (Int32.ofNat pl)), (.int (Int32.ofNat nl)), (.ref pc_), (.ref nc_)] below meth c s₁ [] 0 0 := Stand.of_body Bd
  have e0 : s₁.heap = h0 := by rw [← hh, Bd.state]; rfl
  have N0 := Fr.nil n0
  have pre0 : ∀ t, Steps p.tables e below (s₁.setTop (mkF m 0 #[.val (.ref xs), .val (.int (Int32.ofNat ii)), .val (.int (Int32.ofNat ln)), .val (.int (Int32.ofNat pl)), .val (.int (Int32.ofNat nl)), .val (.ref pc_), .val (.ref nc_)] [])) t → Steps p.tables e below (s₁.setTop (entryFrame m #[(.ref xs), (.int (Int32.ofNat ii)), (.int (Int32.ofNat ln)), (.int (Int32.ofNat pl)), (.int (Int32.ofNat nl)), (.ref pc_), (.ref nc_)] 7)) t := fun t k => castTop (ef_18 m xs (Int32.ofNat ii) (Int32.ofNat ln) (Int32.ofNat pl) (Int32.ofNat nl) pc_ nc_) k
  have pre301 : ∀ t, Steps p.tables e below (s₁.setTop (mkF m 2 #[.val (.ref xs), .val (.int (Int32.ofNat ii)), .val (.int (Int32.ofNat ln)), .val (.int (Int32.ofNat pl)), .val (.int (Int32.ofNat nl)), .val (.ref pc_), .val (.ref nc_)] [(.int (Int32.ofNat ln)), (.int (Int32.ofNat ii))])) t → Steps p.tables e below (s₁.setTop (entryFrame m #[(.ref xs), (.int (Int32.ofNat ii)), (.int (Int32.ofNat ln)), (.int (Int32.ofNat pl)), (.int (Int32.ofNat nl)), (.ref pc_), (.ref nc_)] 7)) t := fun t kk => pre0 t (by
    refine XS.iloadN X0.here hx rfl (hb hby d_method_5_code_0) rfl ?_
    show Steps p.tables e below (s₁.setTop (mkF m 1 #[.val (.ref xs), .val (.int (Int32.ofNat ii)), .val (.int (Int32.ofNat ln)), .val (.int (Int32.ofNat pl)), .val (.int (Int32.ofNat nl)), .val (.ref pc_), .val (.ref nc_)] [(.int (Int32.ofNat ii))])) _
    refine XS.iloadN X0.here hx rfl (hb hby d_method_5_code_1) rfl ?_
    show Steps p.tables e below (s₁.setTop (mkF m 2 #[.val (.ref xs), .val (.int (Int32.ofNat ii)), .val (.int (Int32.ofNat ln)), .val (.int (Int32.ofNat pl)), .val (.int (Int32.ofNat nl)), .val (.ref pc_), .val (.ref nc_)] [(.int (Int32.ofNat ln)), (.int (Int32.ofNat ii))])) _
    exact kk)
  by_cases g : ii < ln
  · obtain ⟨cq302, kq302, q302a, q302b, q302c⟩ := isOf hZ e0 q5
    obtain ⟨_, _, ⟨T302, L302, k302, n302⟩, -, X302, ⟨Lc302, hQ302, l302, y302, z302⟩, st302⟩ := X0.virtualBack hx (y := (⟨"java/lang/String", "charAt", "(I)C"⟩ : MethodName)) (z := (⟨"java/lang/String", "charAt", "(I)C"⟩ : MethodName)) hown (mvT hZ (hw _ (List.mem_of_getElem? (i := 235) rfl))) (mvT hZ (hw _ (List.mem_of_getElem? (i := 105) rfl))) (notFace_of_selects (args := #[]) (mvT hZ (hw _ (List.mem_of_getElem? (i := 107) rfl)))) (mvT hZ (hw _ (List.mem_of_getElem? (i := 107) rfl))) (mvT hZ (hw _ (List.mem_of_getElem? (i := 106) rfl))) (by decide) (StrChars.Road.chN (W := 0) hZ (own_hw_chN hw) (kI := 4) (hw _ (List.mem_of_getElem? (i := 9) rfl)) q5 q6 q7 q8 hcd1 hbd1 (q0.ext q4.2) hCS (q2.ext q4.2) hFM (by rw [own_rl hps.1 hns.1 hpl hnl]; omega) (i := ii) (by rw [own_rl hps.1 hns.1 hpl hnl]; omega) (j := (Int32.ofNat ii)) rfl (by decide) (by decide)) q302a q302c (g := (mkF m 9 #[.val (.ref xs), .val (.int (Int32.ofNat ii)), .val (.int (Int32.ofNat ln)), .val (.int (Int32.ofNat pl)), .val (.int (Int32.ofNat nl)), .val (.ref pc_), .val (.ref nc_)] [(.int (Int32.ofNat ii)), (.ref xs)])) rfl (by rw [hml]; rfl) (Steps.refl _) (argsL := [(.int (Int32.ofNat ii))]) (rest := []) (lenOf pd_22 rfl) rfl (by show 2 * 0 + _ ≤ _; exact Nat.le_of_eq rfl) (hb hby d_method_5_code_9) (fun _ _ => ⟨rfl, e0, (by decide : 0 + 0 ≤ _), (by decide : 0 + 0 ≤ _)⟩)
    dsimp only [Pt.U, Pt.locs, Pt.cells, Pt.slots] at X302 l302 y302 z302 st302 hQ302
    subst l302 y302 z302
    obtain ⟨rfl, rfl, e302⟩ := hQ302
    have N302 := Fr.app N0 (Fr.nil n0)
    obtain ⟨_, _, ⟨T303, L303, k303, n303⟩, -, X303, ⟨Lc303, hQ303, l303, y303, z303⟩, st303⟩ := Jvm.LawKit.callS X302 hx (y := (⟨"com/example/holdfast/holdfast/redis/LockKeysLockKeyPinLaw", "expected", "(III[C[C)C"⟩ : MethodName)) hown (mvT hZ (hw _ (List.mem_of_getElem? (i := 236) rfl))) (mvT hZ (hw _ (List.mem_of_getElem? (i := 237) rfl))) (mvT hZ (hw _ (List.mem_of_getElem? (i := 2) rfl))) (mvT hZ (hw _ (List.mem_of_getElem? (i := 238) rfl))) (by decide) (backOf (W := 1) (rm_expd l Z a0 hw [] ii pl nl pc_ nc_ kp kn ps ns h0 n0 Z0 q13 q14 hps hns hpl hnl (by omega)) hZ (hw _ (List.mem_of_getElem? (i := 238) rfl)) (hw _ (List.mem_of_getElem? (i := 2) rfl)) (by decide) (by decide)) (g := (mkF m 20 #[.val (.ref xs), .val (.int (Int32.ofNat ii)), .val (.int (Int32.ofNat ln)), .val (.int (Int32.ofNat pl)), .val (.int (Int32.ofNat nl)), .val (.ref pc_), .val (.ref nc_)] [(.ref nc_), (.ref pc_), (.int (Int32.ofNat nl)), (.int (Int32.ofNat pl)), (.int (Int32.ofNat ii)), (.int (((ps.take pl ++ [(123 : Int32)] ++ ns.take nl ++ [(125 : Int32)])).getD ii 0))])) rfl (by rw [hml]; rfl) (argsL := [(.int (Int32.ofNat ii)), (.int (Int32.ofNat pl)), (.int (Int32.ofNat nl)), (.ref pc_), (.ref nc_)]) (rest := [(.int (((ps.take pl ++ [(123 : Int32)] ++ ns.take nl ++ [(125 : Int32)])).getD ii 0))]) (lenOf pd_27 rfl) rfl (by show 2 * 0 + _ ≤ _; exact Nat.le_of_eq rfl) (hb hby d_method_5_code_20) (fun _ _ => ⟨rfl, e302, (by decide : 0 + 0 ≤ _), (by decide : 0 + 0 ≤ _)⟩)
    dsimp only [Pt.U, Pt.locs, Pt.cells, Pt.slots] at X303 l303 y303 z303 st303 hQ303
    subst l303 y303 z303
    obtain ⟨rfl, Nq303, e303⟩ := hQ303
    have N303 := Fr.app N302 Nq303
    obtain ⟨fs, hr, hrun, hended, hW, hsame⟩ := X303.leave (v := some (.int (1 : Int32))) (fun h => by rw [Bd.returns] at h; cases h)
    refine ⟨_, _, pre301 _ ?_, hrun, hended, _, _, rfl, ?_, ⟨_, rfl⟩, hW, hsame.mono (by decide) (by decide)⟩
    · refine XS.icmpYes X0.here hx rfl (pc0 := 2) (pc' := 7) rfl (hb hby d_method_5_code_2) rfl (tlt ((own_inb g (by omega)).2 : (Int32.ofNat ii) < (Int32.ofNat ln))).1 (by decide) (by decide) ?_
      show Steps p.tables e below (s₁.setTop (mkF m 7 #[.val (.ref xs), .val (.int (Int32.ofNat ii)), .val (.int (Int32.ofNat ln)), .val (.int (Int32.ofNat pl)), .val (.int (Int32.ofNat nl)), .val (.ref pc_), .val (.ref nc_)] [])) _
      refine XS.aloadN X0.here hx rfl (hb hby d_method_5_code_7) rfl rfl ?_
      show Steps p.tables e below (s₁.setTop (mkF m 8 #[.val (.ref xs), .val (.int (Int32.ofNat ii)), .val (.int (Int32.ofNat ln)), .val (.int (Int32.ofNat pl)), .val (.int (Int32.ofNat nl)), .val (.ref pc_), .val (.ref nc_)] [(.ref xs)])) _
      refine XS.iloadN X0.here hx rfl (hb hby d_method_5_code_8) rfl ?_
      show Steps p.tables e below (s₁.setTop (mkF m 9 #[.val (.ref xs), .val (.int (Int32.ofNat ii)), .val (.int (Int32.ofNat ln)), .val (.int (Int32.ofNat pl)), .val (.int (Int32.ofNat nl)), .val (.ref pc_), .val (.ref nc_)] [(.int (Int32.ofNat ii)), (.ref xs)])) _
      refine st302.trans ?_
      show Steps p.tables e below (T302.setTop (mkF m 12 #[.val (.ref xs), .val (.int (Int32.ofNat ii)), .val (.int (Int32.ofNat ln)), .val (.int (Int32.ofNat pl)), .val (.int (Int32.ofNat nl)), .val (.ref pc_), .val (.ref nc_)] [(.int (((ps.take pl ++ [(123 : Int32)] ++ ns.take nl ++ [(125 : Int32)])).getD ii 0))])) _
      refine XS.iloadN X302.here hx rfl (hb hby d_method_5_code_12) rfl ?_
      show Steps p.tables e below (T302.setTop (mkF m 13 #[.val (.ref xs), .val (.int (Int32.ofNat ii)), .val (.int (Int32.ofNat ln)), .val (.int (Int32.ofNat pl)), .val (.int (Int32.ofNat nl)), .val (.ref pc_), .val (.ref nc_)] [(.int (Int32.ofNat ii)), (.int (((ps.take pl ++ [(123 : Int32)] ++ ns.take nl ++ [(125 : Int32)])).getD ii 0))])) _
      refine XS.iloadN X302.here hx rfl (hb hby d_method_5_code_13) rfl ?_
      show Steps p.tables e below (T302.setTop (mkF m 14 #[.val (.ref xs), .val (.int (Int32.ofNat ii)), .val (.int (Int32.ofNat ln)), .val (.int (Int32.ofNat pl)), .val (.int (Int32.ofNat nl)), .val (.ref pc_), .val (.ref nc_)] [(.int (Int32.ofNat pl)), (.int (Int32.ofNat ii)), (.int (((ps.take pl ++ [(123 : Int32)] ++ ns.take nl ++ [(125 : Int32)])).getD ii 0))])) _
      refine XS.iload X302.here hx rfl (hb hby d_method_5_code_14) rfl ?_
      show Steps p.tables e below (T302.setTop (mkF m 16 #[.val (.ref xs), .val (.int (Int32.ofNat ii)), .val (.int (Int32.ofNat ln)), .val (.int (Int32.ofNat pl)), .val (.int (Int32.ofNat nl)), .val (.ref pc_), .val (.ref nc_)] [(.int (Int32.ofNat nl)), (.int (Int32.ofNat pl)), (.int (Int32.ofNat ii)), (.int (((ps.take pl ++ [(123 : Int32)] ++ ns.take nl ++ [(125 : Int32)])).getD ii 0))])) _
      refine XS.aload X302.here hx rfl (hb hby d_method_5_code_16) rfl rfl ?_
      show Steps p.tables e below (T302.setTop (mkF m 18 #[.val (.ref xs), .val (.int (Int32.ofNat ii)), .val (.int (Int32.ofNat ln)), .val (.int (Int32.ofNat pl)), .val (.int (Int32.ofNat nl)), .val (.ref pc_), .val (.ref nc_)] [(.ref pc_), (.int (Int32.ofNat nl)), (.int (Int32.ofNat pl)), (.int (Int32.ofNat ii)), (.int (((ps.take pl ++ [(123 : Int32)] ++ ns.take nl ++ [(125 : Int32)])).getD ii 0))])) _
      refine XS.aload X302.here hx rfl (hb hby d_method_5_code_18) rfl rfl ?_
      show Steps p.tables e below (T302.setTop (mkF m 20 #[.val (.ref xs), .val (.int (Int32.ofNat ii)), .val (.int (Int32.ofNat ln)), .val (.int (Int32.ofNat pl)), .val (.int (Int32.ofNat nl)), .val (.ref pc_), .val (.ref nc_)] [(.ref nc_), (.ref pc_), (.int (Int32.ofNat nl)), (.int (Int32.ofNat pl)), (.int (Int32.ofNat ii)), (.int (((ps.take pl ++ [(123 : Int32)] ++ ns.take nl ++ [(125 : Int32)])).getD ii 0))])) _
      refine st303 _ ?_
      show Steps p.tables e below (T303.setTop (mkF m 23 #[.val (.ref xs), .val (.int (Int32.ofNat ii)), .val (.int (Int32.ofNat ln)), .val (.int (Int32.ofNat pl)), .val (.int (Int32.ofNat nl)), .val (.ref pc_), .val (.ref nc_)] [(.int ((ps.take pl ++ [(123 : Int32)] ++ ns.take nl ++ [(125 : Int32)]).getD ii 0)), (.int (((ps.take pl ++ [(123 : Int32)] ++ ns.take nl ++ [(125 : Int32)])).getD ii 0))])) _
      refine XS.icmpNo X303.here hx rfl (hb hby d_method_5_code_23) rfl (teq (rfl : (((ps.take pl ++ [(123 : Int32)] ++ ns.take nl ++ [(125 : Int32)])).getD ii 0) = ((ps.take pl ++ [(123 : Int32)] ++ ns.take nl ++ [(125 : Int32)]).getD ii 0))).2 ?_
      show Steps p.tables e below (T303.setTop (mkF m 26 #[.val (.ref xs), .val (.int (Int32.ofNat ii)), .val (.int (Int32.ofNat ln)), .val (.int (Int32.ofNat pl)), .val (.int (Int32.ofNat nl)), .val (.ref pc_), .val (.ref nc_)] [])) _
      refine XS.iconst X303.here hx rfl (hb hby d_method_5_code_26) ?_
      show Steps p.tables e below (T303.setTop (mkF m 27 #[.val (.ref xs), .val (.int (Int32.ofNat ii)), .val (.int (Int32.ofNat ln)), .val (.int (Int32.ofNat pl)), .val (.int (Int32.ofNat nl)), .val (.ref pc_), .val (.ref nc_)] [(.int (1 : Int32))])) _
      refine XS.goto X303.here hx rfl (pc0 := 27) (pc' := 31) rfl (hb hby d_method_5_code_27) (by decide) (by decide) ?_
      show Steps p.tables e below (T303.setTop (mkF m 31 #[.val (.ref xs), .val (.int (Int32.ofNat ii)), .val (.int (Int32.ofNat ln)), .val (.int (Int32.ofNat pl)), .val (.int (Int32.ofNat nl)), .val (.ref pc_), .val (.ref nc_)] [(.int (1 : Int32))])) _
      exact retN X303 hx (t := .boolean) Bd.returns (by simp) (hb hby d_method_5_code_31) hr
    · show Q_at Z xs ln t1 k1 G fm ii pl nl pc_ nc_ kp kn ps ns h0 n0 _ T303.heap _
      rw [e303]
      exact ⟨rfl, N303, rfl⟩
  · obtain ⟨fs, hr, hrun, hended, hW, hsame⟩ := X0.leave (v := some (.int (1 : Int32))) (fun h => by rw [Bd.returns] at h; cases h)
    refine ⟨_, _, pre301 _ ?_, hrun, hended, _, _, rfl, ?_, ⟨_, rfl⟩, hW, hsame.mono (by decide) (by decide)⟩
    · refine XS.icmpNo X0.here hx rfl (hb hby d_method_5_code_2) rfl (flt ((own_nlt (by omega) (by omega)) : ¬ ((Int32.ofNat ii) < (Int32.ofNat ln)))).1 ?_
      show Steps p.tables e below (s₁.setTop (mkF m 5 #[.val (.ref xs), .val (.int (Int32.ofNat ii)), .val (.int (Int32.ofNat ln)), .val (.int (Int32.ofNat pl)), .val (.int (Int32.ofNat nl)), .val (.ref pc_), .val (.ref nc_)] [])) _
      refine XS.iconst X0.here hx rfl (hb hby d_method_5_code_5) ?_
      show Steps p.tables e below (s₁.setTop (mkF m 6 #[.val (.ref xs), .val (.int (Int32.ofNat ii)), .val (.int (Int32.ofNat ln)), .val (.int (Int32.ofNat pl)), .val (.int (Int32.ofNat nl)), .val (.ref pc_), .val (.ref nc_)] [(.int (1 : Int32))])) _
      exact retN X0 hx (t := .boolean) Bd.returns (by simp) (hb hby d_method_5_code_6) hr
    · show Q_at Z xs ln t1 k1 G fm ii pl nl pc_ nc_ kp kn ps ns h0 n0 _ s₁.heap _
      rw [e0]
      exact ⟨rfl, N0, rfl⟩
theorem pd_28 : parseMethodDescriptor "(ICCC)Ljava/lang/String;" = some ⟨[.int, .char, .char, .char], some (.object "java/lang/String")⟩ := by decide +kernel
theorem pd_29 : parseMethodDescriptor "(Ljava/lang/String;)Ljava/lang/String;" = some ⟨[(.object "java/lang/String")], some (.object "java/lang/String")⟩ := by decide +kernel
theorem pd_30 : parseMethodDescriptor "(Ljava/lang/String;IIII[C[C)Z" = some ⟨[(.object "java/lang/String"), .int, .int, .int, .int, (.array .char), (.array .char)], some .boolean⟩ := by decide +kernel
theorem ef_19 (m : MethodId) (x0 : Int32) (x1 : Int32) : entryFrame m #[(.int x0), (.int x1)] maxLocals = mkF m 0 #[.val (.int x0), .val (.int x1), .unset, .unset, .unset, .unset, .unset, .unset, .unset, .unset, .unset, .unset, .unset, .unset, .unset, .unset, .unset] [] := by first | (simp [entryFrame, mkF, argsToLocals, Value.category, maxLocals]; done) | rfl
def Q_law (Z : State) (i0 : Int32) (i1 : Int32) (G : Int32) (fm : Value) (h0 : Heap) (n0 : Nat) (v : Option Value) (h : Heap) (L : List Loc) : Prop := (v = some (.int (1 : Int32))) ∧ (Fr n0 L)
set_option maxRecDepth 65536 in
set_option maxHeartbeats 40000000 in
theorem rm_law (l : Launch) (Z : State) (a0 : Array Value) (hw : ∀ d ∈ tables_1, d.before a0 Z = true) (ws : List Jvm.Cond) (i0 : Int32) (i1 : Int32) (G : Int32) (fm : Value) (h0 : Heap) (n0 : Nat) (Z0 : n0 ≤ h0.size) (q0 : Sta Z Z.heap "java/lang/String" "COMPACT_STRINGS" "Z" (.int G)) (hCS : ¬ (G = (0 : Int32))) (q2 : Sta Z Z.heap "jdk/internal/util/Preconditions" "SIOOBE_FORMATTER" "Ljava/util/function/BiFunction;" fm) (hFM : fm.isRef = true) (q4 : Old Z n0 h0) :
    MetFree l x (head1 (Jvm.Cond.code x code maxLocals ret :: ws) room_1) (fun a₁ U₁ => a₁ = #[(.int i0), (.int i1)] ∧ Z.Warmed39 U₁.vm ∧ U₁.heap = h0 ∧ CHv Z [("java/lang/String", 7)] U₁.vm h0) (fun _ _ _ _ _ => True) (fun _ U₁ o₁ U₂ => ∃ v₁ L₁, o₁ = .returned v₁ ∧ Q_law Z i0 i1 G fm h0 n0 v₁ U₂.heap L₁ ∧ ReturnedEndW U₁ o₁ U₂ L₁ room_1.cells room_1.slots) := by
  refine MetFree.of_bodySF (plainFor_of_name pn_5) hisR ?_
  intro p e s m args below meth c s₁ Bd hml0 hP hK
  obtain ⟨rfl, hZ, hh, CH0⟩ := hP
  have hx := Bd.exec
  have hby := Bd.bytes
  have hml : c.maxLocals = 17 := hml0
  have hown : s.vm.findClass "com/example/holdfast/holdfast/redis/LockKeysLockKeyPinLaw" = some m.cls := findClass_of_methodNamed Bd.named
  have hnm := (name_of_methodNamed Bd.named Bd.method).1
  have X0 : Stand p l e room_1 (s.setVm s.vm) m #[(.int i0), (.int i1)] below meth c s₁ [] 0 0 := Stand.of_body Bd
  have e0 : s₁.heap = h0 := by rw [← hh, Bd.state]; rfl
  have N0 := Fr.nil n0
  have hZ0 : Z.Warmed39 (s.setVm s.vm).vm := hZ
  have hown0 : (s.setVm s.vm).vm.findClass "com/example/holdfast/holdfast/redis/LockKeysLockKeyPinLaw" = some m.cls := hown
  have hS0 : s.Since s.vm h0.size := (State.WarmedH.refl s).since _
  have hk0 : h0.size ≤ h0.size := Nat.le_refl _
  have CR0 : CHr Z [("java/lang/String", 7)] s.vm h0 s.vm h0 := CHr.refl CH0
  have pre0 : ∀ t, Steps p.tables e below (s₁.setTop (mkF m 0 #[.val (.int i0), .val (.int i1), .unset, .unset, .unset, .unset, .unset, .unset, .unset, .unset, .unset, .unset, .unset, .unset, .unset, .unset, .unset] [])) t → Steps p.tables e below (s₁.setTop (entryFrame m #[(.int i0), (.int i1)] maxLocals)) t := fun t k => castTop (ef_19 m i0 i1) k
  have pre301 : ∀ t, Steps p.tables e below (s₁.setTop (mkF m 7 #[.val (.int i0), .val (.int i1), .val (.int (((i0.toUInt32 >>> ((24 : Int32) &&& 31).toUInt32).toInt32) &&& (3 : Int32))), .unset, .unset, .unset, .unset, .unset, .unset, .unset, .unset, .unset, .unset, .unset, .unset, .unset, .unset] [])) t → Steps p.tables e below (s₁.setTop (entryFrame m #[(.int i0), (.int i1)] maxLocals)) t := fun t kk => pre0 t (by
    refine XS.iloadN X0.here hx rfl (hb hby at_0) rfl ?_
    show Steps p.tables e below (s₁.setTop (mkF m 1 #[.val (.int i0), .val (.int i1), .unset, .unset, .unset, .unset, .unset, .unset, .unset, .unset, .unset, .unset, .unset, .unset, .unset, .unset, .unset] [(.int i0)])) _
    refine XS.bipush X0.here hx rfl (hb hby at_1) ?_
    show Steps p.tables e below (s₁.setTop (mkF m 3 #[.val (.int i0), .val (.int i1), .unset, .unset, .unset, .unset, .unset, .unset, .unset, .unset, .unset, .unset, .unset, .unset, .unset, .unset, .unset] [(.int (24 : Int32)), (.int i0)])) _
    refine XS.iushr X0.here hx rfl (hb hby at_3) rfl ?_
    show Steps p.tables e below (s₁.setTop (mkF m 4 #[.val (.int i0), .val (.int i1), .unset, .unset, .unset, .unset, .unset, .unset, .unset, .unset, .unset, .unset, .unset, .unset, .unset, .unset, .unset] [(.int ((i0.toUInt32 >>> ((24 : Int32) &&& 31).toUInt32).toInt32))])) _
    refine XS.iconst X0.here hx rfl (hb hby at_4) ?_
    show Steps p.tables e below (s₁.setTop (mkF m 5 #[.val (.int i0), .val (.int i1), .unset, .unset, .unset, .unset, .unset, .unset, .unset, .unset, .unset, .unset, .unset, .unset, .unset, .unset, .unset] [(.int (3 : Int32)), (.int ((i0.toUInt32 >>> ((24 : Int32) &&& 31).toUInt32).toInt32))])) _
    refine XS.iand X0.here hx rfl (hb hby at_5) rfl ?_
    show Steps p.tables e below (s₁.setTop (mkF m 6 #[.val (.int i0), .val (.int i1), .unset, .unset, .unset, .unset, .unset, .unset, .unset, .unset, .unset, .unset, .unset, .unset, .unset, .unset, .unset] [(.int (((i0.toUInt32 >>> ((24 : Int32) &&& 31).toUInt32).toInt32) &&& (3 : Int32)))])) _
    refine XS.istoreN X0.here hx rfl (hb hby at_6) rfl (l' := #[.val (.int i0), .val (.int i1), .val (.int (((i0.toUInt32 >>> ((24 : Int32) &&& 31).toUInt32).toInt32) &&& (3 : Int32))), .unset, .unset, .unset, .unset, .unset, .unset, .unset, .unset, .unset, .unset, .unset, .unset, .unset, .unset]) rfl ?_
    show Steps p.tables e below (s₁.setTop (mkF m 7 #[.val (.int i0), .val (.int i1), .val (.int (((i0.toUInt32 >>> ((24 : Int32) &&& 31).toUInt32).toInt32) &&& (3 : Int32))), .unset, .unset, .unset, .unset, .unset, .unset, .unset, .unset, .unset, .unset, .unset, .unset, .unset, .unset] [])) _
    exact kk)
  obtain ⟨pl, h_pl, hb_pl⟩ : ∃ pl : Nat, (((i0.toUInt32 >>> ((24 : Int32) &&& 31).toUInt32).toInt32) &&& (3 : Int32)) = Int32.ofNat pl ∧ (pl ≤ 3) := own_and3 _
  rw [h_pl] at pre301
  obtain ⟨_, _, ⟨T303, L303, k303, n303⟩, -, X303, ⟨Lc303, hQ303, l303, y303, z303⟩, st303⟩ := Jvm.LawKit.callS X0 hx (y := (⟨"com/example/holdfast/holdfast/redis/LockKeysLockKeyPinLaw", "prefixChar", "(I)C"⟩ : MethodName)) hown0 (mvT hZ0 (hw _ (List.mem_of_getElem? (i := 0) rfl))) (mvT hZ0 (hw _ (List.mem_of_getElem? (i := 1) rfl))) (mvT hZ0 (hw _ (List.mem_of_getElem? (i := 2) rfl))) (mvT hZ0 (hw _ (List.mem_of_getElem? (i := 3) rfl))) (by decide) (backOf (W := 0) (rm_pfx l Z a0 hw [] i0 h0 n0 Z0 ) hZ0 (hw _ (List.mem_of_getElem? (i := 3) rfl)) (hw _ (List.mem_of_getElem? (i := 2) rfl)) (by decide) (by decide)) (g := (mkF m 12 #[.val (.int i0), .val (.int i1), .val (.int (Int32.ofNat pl)), .unset, .unset, .unset, .unset, .unset, .unset, .unset, .unset, .unset, .unset, .unset, .unset, .unset, .unset] [(.int (i0 &&& (255 : Int32)))])) rfl (by rw [hml]; rfl) (argsL := [(.int (i0 &&& (255 : Int32)))]) (rest := []) (lenOf pd_22 rfl) rfl (by show 2 * 0 + _ ≤ _; exact Nat.le_of_eq rfl) (hb hby at_12) (fun _ _ => ⟨rfl, e0, (by decide : 0 + 0 ≤ _), (by decide : 0 + 0 ≤ _)⟩)
  dsimp only [Pt.U, Pt.locs, Pt.cells, Pt.slots] at X303 l303 y303 z303 st303 hQ303
  subst l303 y303 z303
  obtain ⟨rv_303, rfl, Nq303, e303, f303_0⟩ := hQ303
  have N303 := Fr.app N0 Nq303
  have hp0 : own_L rv_303 ∧ ¬ rv_303 = (123 : Int32) := f303_0
  obtain ⟨_, _, ⟨T304, L304, k304, n304⟩, -, X304, ⟨Lc304, hQ304, l304, y304, z304⟩, st304⟩ := Jvm.LawKit.callS X303 hx (y := (⟨"com/example/holdfast/holdfast/redis/LockKeysLockKeyPinLaw", "prefixChar", "(I)C"⟩ : MethodName)) hown0 (mvT hZ0 (hw _ (List.mem_of_getElem? (i := 0) rfl))) (mvT hZ0 (hw _ (List.mem_of_getElem? (i := 1) rfl))) (mvT hZ0 (hw _ (List.mem_of_getElem? (i := 2) rfl))) (mvT hZ0 (hw _ (List.mem_of_getElem? (i := 3) rfl))) (by decide) (backOf (W := 0) (rm_pfx l Z a0 hw [] ((i0.toUInt32 >>> ((8 : Int32) &&& 31).toUInt32).toInt32) h0 n0 Z0 ) hZ0 (hw _ (List.mem_of_getElem? (i := 3) rfl)) (hw _ (List.mem_of_getElem? (i := 2) rfl)) (by decide) (by decide)) (g := (mkF m 24 #[.val (.int i0), .val (.int i1), .val (.int (Int32.ofNat pl)), .val (.int rv_303), .unset, .unset, .unset, .unset, .unset, .unset, .unset, .unset, .unset, .unset, .unset, .unset, .unset] [(.int (((i0.toUInt32 >>> ((8 : Int32) &&& 31).toUInt32).toInt32) &&& (255 : Int32)))])) rfl (by rw [hml]; rfl) (argsL := [(.int (((i0.toUInt32 >>> ((8 : Int32) &&& 31).toUInt32).toInt32) &&& (255 : Int32)))]) (rest := []) (lenOf pd_22 rfl) rfl (by show 2 * 0 + _ ≤ _; exact Nat.le_of_eq rfl) (hb hby at_24) (fun _ _ => ⟨rfl, e303, (by decide : 0 + 0 ≤ _), (by decide : 0 + 0 ≤ _)⟩)
  dsimp only [Pt.U, Pt.locs, Pt.cells, Pt.slots] at X304 l304 y304 z304 st304 hQ304
  subst l304 y304 z304
  obtain ⟨rv_304, rfl, Nq304, e304, f304_0⟩ := hQ304
  have N304 := Fr.app N303 Nq304
  have hp1 : own_L rv_304 ∧ ¬ rv_304 = (123 : Int32) := f304_0
  obtain ⟨_, _, ⟨T305, L305, k305, n305⟩, -, X305, ⟨Lc305, hQ305, l305, y305, z305⟩, st305⟩ := Jvm.LawKit.callS X304 hx (y := (⟨"com/example/holdfast/holdfast/redis/LockKeysLockKeyPinLaw", "prefixChar", "(I)C"⟩ : MethodName)) hown0 (mvT hZ0 (hw _ (List.mem_of_getElem? (i := 0) rfl))) (mvT hZ0 (hw _ (List.mem_of_getElem? (i := 1) rfl))) (mvT hZ0 (hw _ (List.mem_of_getElem? (i := 2) rfl))) (mvT hZ0 (hw _ (List.mem_of_getElem? (i := 3) rfl))) (by decide) (backOf (W := 0) (rm_pfx l Z a0 hw [] ((i0.toUInt32 >>> ((16 : Int32) &&& 31).toUInt32).toInt32) h0 n0 Z0 ) hZ0 (hw _ (List.mem_of_getElem? (i := 3) rfl)) (hw _ (List.mem_of_getElem? (i := 2) rfl)) (by decide) (by decide)) (g := (mkF m 37 #[.val (.int i0), .val (.int i1), .val (.int (Int32.ofNat pl)), .val (.int rv_303), .val (.int rv_304), .unset, .unset, .unset, .unset, .unset, .unset, .unset, .unset, .unset, .unset, .unset, .unset] [(.int (((i0.toUInt32 >>> ((16 : Int32) &&& 31).toUInt32).toInt32) &&& (255 : Int32)))])) rfl (by rw [hml]; rfl) (argsL := [(.int (((i0.toUInt32 >>> ((16 : Int32) &&& 31).toUInt32).toInt32) &&& (255 : Int32)))]) (rest := []) (lenOf pd_22 rfl) rfl (by show 2 * 0 + _ ≤ _; exact Nat.le_of_eq rfl) (hb hby at_37) (fun _ _ => ⟨rfl, e304, (by decide : 0 + 0 ≤ _), (by decide : 0 + 0 ≤ _)⟩)
  dsimp only [Pt.U, Pt.locs, Pt.cells, Pt.slots] at X305 l305 y305 z305 st305 hQ305
  subst l305 y305 z305
  obtain ⟨rv_305, rfl, Nq305, e305, f305_0⟩ := hQ305
  have N305 := Fr.app N304 Nq305
  have hp2 : own_L rv_305 ∧ ¬ rv_305 = (123 : Int32) := f305_0
  have pre306 : ∀ t, Steps p.tables e below (T305.setTop (mkF m 54 #[.val (.int i0), .val (.int i1), .val (.int (Int32.ofNat pl)), .val (.int rv_303), .val (.int rv_304), .val (.int rv_305), .val (.int ((1 : Int32) + ((((i1.toUInt32 >>> ((24 : Int32) &&& 31).toUInt32).toInt32) &&& (3 : Int32)) % (3 : Int32)))), .unset, .unset, .unset, .unset, .unset, .unset, .unset, .unset, .unset, .unset] [])) t → Steps p.tables e below (s₁.setTop (entryFrame m #[(.int i0), (.int i1)] maxLocals)) t := fun t kk => pre301 t (by
    refine XS.iloadN X0.here hx rfl (hb hby at_7) rfl ?_
    show Steps p.tables e below (s₁.setTop (mkF m 8 #[.val (.int i0), .val (.int i1), .val (.int (Int32.ofNat pl)), .unset, .unset, .unset, .unset, .unset, .unset, .unset, .unset, .unset, .unset, .unset, .unset, .unset, .unset] [(.int i0)])) _
    refine XS.sipush X0.here hx rfl (hb hby at_8) ?_
    show Steps p.tables e below (s₁.setTop (mkF m 11 #[.val (.int i0), .val (.int i1), .val (.int (Int32.ofNat pl)), .unset, .unset, .unset, .unset, .unset, .unset, .unset, .unset, .unset, .unset, .unset, .unset, .unset, .unset] [(.int (255 : Int32)), (.int i0)])) _
    refine XS.iand X0.here hx rfl (hb hby at_11) rfl ?_
    show Steps p.tables e below (s₁.setTop (mkF m 12 #[.val (.int i0), .val (.int i1), .val (.int (Int32.ofNat pl)), .unset, .unset, .unset, .unset, .unset, .unset, .unset, .unset, .unset, .unset, .unset, .unset, .unset, .unset] [(.int (i0 &&& (255 : Int32)))])) _
    refine st303 _ ?_
    show Steps p.tables e below (T303.setTop (mkF m 15 #[.val (.int i0), .val (.int i1), .val (.int (Int32.ofNat pl)), .unset, .unset, .unset, .unset, .unset, .unset, .unset, .unset, .unset, .unset, .unset, .unset, .unset, .unset] [(.int rv_303)])) _
    refine XS.istoreN X303.here hx rfl (hb hby at_15) rfl (l' := #[.val (.int i0), .val (.int i1), .val (.int (Int32.ofNat pl)), .val (.int rv_303), .unset, .unset, .unset, .unset, .unset, .unset, .unset, .unset, .unset, .unset, .unset, .unset, .unset]) rfl ?_
    show Steps p.tables e below (T303.setTop (mkF m 16 #[.val (.int i0), .val (.int i1), .val (.int (Int32.ofNat pl)), .val (.int rv_303), .unset, .unset, .unset, .unset, .unset, .unset, .unset, .unset, .unset, .unset, .unset, .unset, .unset] [])) _
    refine XS.iloadN X303.here hx rfl (hb hby at_16) rfl ?_
    show Steps p.tables e below (T303.setTop (mkF m 17 #[.val (.int i0), .val (.int i1), .val (.int (Int32.ofNat pl)), .val (.int rv_303), .unset, .unset, .unset, .unset, .unset, .unset, .unset, .unset, .unset, .unset, .unset, .unset, .unset] [(.int i0)])) _
    refine XS.bipush X303.here hx rfl (hb hby at_17) ?_
    show Steps p.tables e below (T303.setTop (mkF m 19 #[.val (.int i0), .val (.int i1), .val (.int (Int32.ofNat pl)), .val (.int rv_303), .unset, .unset, .unset, .unset, .unset, .unset, .unset, .unset, .unset, .unset, .unset, .unset, .unset] [(.int (8 : Int32)), (.int i0)])) _
    refine XS.iushr X303.here hx rfl (hb hby at_19) rfl ?_
    show Steps p.tables e below (T303.setTop (mkF m 20 #[.val (.int i0), .val (.int i1), .val (.int (Int32.ofNat pl)), .val (.int rv_303), .unset, .unset, .unset, .unset, .unset, .unset, .unset, .unset, .unset, .unset, .unset, .unset, .unset] [(.int ((i0.toUInt32 >>> ((8 : Int32) &&& 31).toUInt32).toInt32))])) _
    refine XS.sipush X303.here hx rfl (hb hby at_20) ?_
    show Steps p.tables e below (T303.setTop (mkF m 23 #[.val (.int i0), .val (.int i1), .val (.int (Int32.ofNat pl)), .val (.int rv_303), .unset, .unset, .unset, .unset, .unset, .unset, .unset, .unset, .unset, .unset, .unset, .unset, .unset] [(.int (255 : Int32)), (.int ((i0.toUInt32 >>> ((8 : Int32) &&& 31).toUInt32).toInt32))])) _
    refine XS.iand X303.here hx rfl (hb hby at_23) rfl ?_
    show Steps p.tables e below (T303.setTop (mkF m 24 #[.val (.int i0), .val (.int i1), .val (.int (Int32.ofNat pl)), .val (.int rv_303), .unset, .unset, .unset, .unset, .unset, .unset, .unset, .unset, .unset, .unset, .unset, .unset, .unset] [(.int (((i0.toUInt32 >>> ((8 : Int32) &&& 31).toUInt32).toInt32) &&& (255 : Int32)))])) _
    refine st304 _ ?_
    show Steps p.tables e below (T304.setTop (mkF m 27 #[.val (.int i0), .val (.int i1), .val (.int (Int32.ofNat pl)), .val (.int rv_303), .unset, .unset, .unset, .unset, .unset, .unset, .unset, .unset, .unset, .unset, .unset, .unset, .unset] [(.int rv_304)])) _
    refine XS.istore X304.here hx rfl (hb hby at_27) rfl (l' := #[.val (.int i0), .val (.int i1), .val (.int (Int32.ofNat pl)), .val (.int rv_303), .val (.int rv_304), .unset, .unset, .unset, .unset, .unset, .unset, .unset, .unset, .unset, .unset, .unset, .unset]) rfl ?_
    show Steps p.tables e below (T304.setTop (mkF m 29 #[.val (.int i0), .val (.int i1), .val (.int (Int32.ofNat pl)), .val (.int rv_303), .val (.int rv_304), .unset, .unset, .unset, .unset, .unset, .unset, .unset, .unset, .unset, .unset, .unset, .unset] [])) _
    refine XS.iloadN X304.here hx rfl (hb hby at_29) rfl ?_
    show Steps p.tables e below (T304.setTop (mkF m 30 #[.val (.int i0), .val (.int i1), .val (.int (Int32.ofNat pl)), .val (.int rv_303), .val (.int rv_304), .unset, .unset, .unset, .unset, .unset, .unset, .unset, .unset, .unset, .unset, .unset, .unset] [(.int i0)])) _
    refine XS.bipush X304.here hx rfl (hb hby at_30) ?_
    show Steps p.tables e below (T304.setTop (mkF m 32 #[.val (.int i0), .val (.int i1), .val (.int (Int32.ofNat pl)), .val (.int rv_303), .val (.int rv_304), .unset, .unset, .unset, .unset, .unset, .unset, .unset, .unset, .unset, .unset, .unset, .unset] [(.int (16 : Int32)), (.int i0)])) _
    refine XS.iushr X304.here hx rfl (hb hby at_32) rfl ?_
    show Steps p.tables e below (T304.setTop (mkF m 33 #[.val (.int i0), .val (.int i1), .val (.int (Int32.ofNat pl)), .val (.int rv_303), .val (.int rv_304), .unset, .unset, .unset, .unset, .unset, .unset, .unset, .unset, .unset, .unset, .unset, .unset] [(.int ((i0.toUInt32 >>> ((16 : Int32) &&& 31).toUInt32).toInt32))])) _
    refine XS.sipush X304.here hx rfl (hb hby at_33) ?_
    show Steps p.tables e below (T304.setTop (mkF m 36 #[.val (.int i0), .val (.int i1), .val (.int (Int32.ofNat pl)), .val (.int rv_303), .val (.int rv_304), .unset, .unset, .unset, .unset, .unset, .unset, .unset, .unset, .unset, .unset, .unset, .unset] [(.int (255 : Int32)), (.int ((i0.toUInt32 >>> ((16 : Int32) &&& 31).toUInt32).toInt32))])) _
    refine XS.iand X304.here hx rfl (hb hby at_36) rfl ?_
    show Steps p.tables e below (T304.setTop (mkF m 37 #[.val (.int i0), .val (.int i1), .val (.int (Int32.ofNat pl)), .val (.int rv_303), .val (.int rv_304), .unset, .unset, .unset, .unset, .unset, .unset, .unset, .unset, .unset, .unset, .unset, .unset] [(.int (((i0.toUInt32 >>> ((16 : Int32) &&& 31).toUInt32).toInt32) &&& (255 : Int32)))])) _
    refine st305 _ ?_
    show Steps p.tables e below (T305.setTop (mkF m 40 #[.val (.int i0), .val (.int i1), .val (.int (Int32.ofNat pl)), .val (.int rv_303), .val (.int rv_304), .unset, .unset, .unset, .unset, .unset, .unset, .unset, .unset, .unset, .unset, .unset, .unset] [(.int rv_305)])) _
    refine XS.istore X305.here hx rfl (hb hby at_40) rfl (l' := #[.val (.int i0), .val (.int i1), .val (.int (Int32.ofNat pl)), .val (.int rv_303), .val (.int rv_304), .val (.int rv_305), .unset, .unset, .unset, .unset, .unset, .unset, .unset, .unset, .unset, .unset, .unset]) rfl ?_
    show Steps p.tables e below (T305.setTop (mkF m 42 #[.val (.int i0), .val (.int i1), .val (.int (Int32.ofNat pl)), .val (.int rv_303), .val (.int rv_304), .val (.int rv_305), .unset, .unset, .unset, .unset, .unset, .unset, .unset, .unset, .unset, .unset, .unset] [])) _
    refine XS.iconst X305.here hx rfl (hb hby at_42) ?_
    show Steps p.tables e below (T305.setTop (mkF m 43 #[.val (.int i0), .val (.int i1), .val (.int (Int32.ofNat pl)), .val (.int rv_303), .val (.int rv_304), .val (.int rv_305), .unset, .unset, .unset, .unset, .unset, .unset, .unset, .unset, .unset, .unset, .unset] [(.int (1 : Int32))])) _
    refine XS.iloadN X305.here hx rfl (hb hby at_43) rfl ?_
    show Steps p.tables e below (T305.setTop (mkF m 44 #[.val (.int i0), .val (.int i1), .val (.int (Int32.ofNat pl)), .val (.int rv_303), .val (.int rv_304), .val (.int rv_305), .unset, .unset, .unset, .unset, .unset, .unset, .unset, .unset, .unset, .unset, .unset] [(.int i1), (.int (1 : Int32))])) _
    refine XS.bipush X305.here hx rfl (hb hby at_44) ?_
    show Steps p.tables e below (T305.setTop (mkF m 46 #[.val (.int i0), .val (.int i1), .val (.int (Int32.ofNat pl)), .val (.int rv_303), .val (.int rv_304), .val (.int rv_305), .unset, .unset, .unset, .unset, .unset, .unset, .unset, .unset, .unset, .unset, .unset] [(.int (24 : Int32)), (.int i1), (.int (1 : Int32))])) _
    refine XS.iushr X305.here hx rfl (hb hby at_46) rfl ?_
    show Steps p.tables e below (T305.setTop (mkF m 47 #[.val (.int i0), .val (.int i1), .val (.int (Int32.ofNat pl)), .val (.int rv_303), .val (.int rv_304), .val (.int rv_305), .unset, .unset, .unset, .unset, .unset, .unset, .unset, .unset, .unset, .unset, .unset] [(.int ((i1.toUInt32 >>> ((24 : Int32) &&& 31).toUInt32).toInt32)), (.int (1 : Int32))])) _
    refine XS.iconst X305.here hx rfl (hb hby at_47) ?_
    show Steps p.tables e below (T305.setTop (mkF m 48 #[.val (.int i0), .val (.int i1), .val (.int (Int32.ofNat pl)), .val (.int rv_303), .val (.int rv_304), .val (.int rv_305), .unset, .unset, .unset, .unset, .unset, .unset, .unset, .unset, .unset, .unset, .unset] [(.int (3 : Int32)), (.int ((i1.toUInt32 >>> ((24 : Int32) &&& 31).toUInt32).toInt32)), (.int (1 : Int32))])) _
    refine XS.iand X305.here hx rfl (hb hby at_48) rfl ?_
    show Steps p.tables e below (T305.setTop (mkF m 49 #[.val (.int i0), .val (.int i1), .val (.int (Int32.ofNat pl)), .val (.int rv_303), .val (.int rv_304), .val (.int rv_305), .unset, .unset, .unset, .unset, .unset, .unset, .unset, .unset, .unset, .unset, .unset] [(.int (((i1.toUInt32 >>> ((24 : Int32) &&& 31).toUInt32).toInt32) &&& (3 : Int32))), (.int (1 : Int32))])) _
    refine XS.iconst X305.here hx rfl (hb hby at_49) ?_
    show Steps p.tables e below (T305.setTop (mkF m 50 #[.val (.int i0), .val (.int i1), .val (.int (Int32.ofNat pl)), .val (.int rv_303), .val (.int rv_304), .val (.int rv_305), .unset, .unset, .unset, .unset, .unset, .unset, .unset, .unset, .unset, .unset, .unset] [(.int (3 : Int32)), (.int (((i1.toUInt32 >>> ((24 : Int32) &&& 31).toUInt32).toInt32) &&& (3 : Int32))), (.int (1 : Int32))])) _
    refine iremM X305 hx rfl (hb hby at_50) rfl (by decide) ?_
    show Steps p.tables e below (T305.setTop (mkF m 51 #[.val (.int i0), .val (.int i1), .val (.int (Int32.ofNat pl)), .val (.int rv_303), .val (.int rv_304), .val (.int rv_305), .unset, .unset, .unset, .unset, .unset, .unset, .unset, .unset, .unset, .unset, .unset] [(.int ((((i1.toUInt32 >>> ((24 : Int32) &&& 31).toUInt32).toInt32) &&& (3 : Int32)) % (3 : Int32))), (.int (1 : Int32))])) _
    refine XS.iadd X305.here hx rfl (hb hby at_51) rfl ?_
    show Steps p.tables e below (T305.setTop (mkF m 52 #[.val (.int i0), .val (.int i1), .val (.int (Int32.ofNat pl)), .val (.int rv_303), .val (.int rv_304), .val (.int rv_305), .unset, .unset, .unset, .unset, .unset, .unset, .unset, .unset, .unset, .unset, .unset] [(.int ((1 : Int32) + ((((i1.toUInt32 >>> ((24 : Int32) &&& 31).toUInt32).toInt32) &&& (3 : Int32)) % (3 : Int32))))])) _
    refine XS.istore X305.here hx rfl (hb hby at_52) rfl (l' := #[.val (.int i0), .val (.int i1), .val (.int (Int32.ofNat pl)), .val (.int rv_303), .val (.int rv_304), .val (.int rv_305), .val (.int ((1 : Int32) + ((((i1.toUInt32 >>> ((24 : Int32) &&& 31).toUInt32).toInt32) &&& (3 : Int32)) % (3 : Int32)))), .unset, .unset, .unset, .unset, .unset, .unset, .unset, .unset, .unset, .unset]) rfl ?_
    show Steps p.tables e below (T305.setTop (mkF m 54 #[.val (.int i0), .val (.int i1), .val (.int (Int32.ofNat pl)), .val (.int rv_303), .val (.int rv_304), .val (.int rv_305), .val (.int ((1 : Int32) + ((((i1.toUInt32 >>> ((24 : Int32) &&& 31).toUInt32).toInt32) &&& (3 : Int32)) % (3 : Int32)))), .unset, .unset, .unset, .unset, .unset, .unset, .unset, .unset, .unset, .unset] [])) _
    exact kk)
  obtain ⟨nl, h_nl, hb_nl⟩ : ∃ nl : Nat, ((1 : Int32) + ((((i1.toUInt32 >>> ((24 : Int32) &&& 31).toUInt32).toInt32) &&& (3 : Int32)) % (3 : Int32))) = Int32.ofNat nl ∧ (1 ≤ nl ∧ nl ≤ 3) := own_1mod3 _
  rw [h_nl] at pre306
  have pre308 : ∀ t, Steps p.tables e below (T305.setTop (mkF m 62 #[.val (.int i0), .val (.int i1), .val (.int (Int32.ofNat pl)), .val (.int rv_303), .val (.int rv_304), .val (.int rv_305), .val (.int (Int32.ofNat nl)), .val (.int ((i1 &&& (255 : Int32)).toUInt32.toUInt16.toUInt32.toInt32)), .unset, .unset, .unset, .unset, .unset, .unset, .unset, .unset, .unset] [])) t → Steps p.tables e below (s₁.setTop (entryFrame m #[(.int i0), (.int i1)] maxLocals)) t := fun t kk => pre306 t (by
    refine XS.iloadN X305.here hx rfl (hb hby at_54) rfl ?_
    show Steps p.tables e below (T305.setTop (mkF m 55 #[.val (.int i0), .val (.int i1), .val (.int (Int32.ofNat pl)), .val (.int rv_303), .val (.int rv_304), .val (.int rv_305), .val (.int (Int32.ofNat nl)), .unset, .unset, .unset, .unset, .unset, .unset, .unset, .unset, .unset, .unset] [(.int i1)])) _
    refine XS.sipush X305.here hx rfl (hb hby at_55) ?_
    show Steps p.tables e below (T305.setTop (mkF m 58 #[.val (.int i0), .val (.int i1), .val (.int (Int32.ofNat pl)), .val (.int rv_303), .val (.int rv_304), .val (.int rv_305), .val (.int (Int32.ofNat nl)), .unset, .unset, .unset, .unset, .unset, .unset, .unset, .unset, .unset, .unset] [(.int (255 : Int32)), (.int i1)])) _
    refine XS.iand X305.here hx rfl (hb hby at_58) rfl ?_
    show Steps p.tables e below (T305.setTop (mkF m 59 #[.val (.int i0), .val (.int i1), .val (.int (Int32.ofNat pl)), .val (.int rv_303), .val (.int rv_304), .val (.int rv_305), .val (.int (Int32.ofNat nl)), .unset, .unset, .unset, .unset, .unset, .unset, .unset, .unset, .unset, .unset] [(.int (i1 &&& (255 : Int32)))])) _
    refine XS.i2c X305.here hx rfl (hb hby at_59) rfl ?_
    show Steps p.tables e below (T305.setTop (mkF m 60 #[.val (.int i0), .val (.int i1), .val (.int (Int32.ofNat pl)), .val (.int rv_303), .val (.int rv_304), .val (.int rv_305), .val (.int (Int32.ofNat nl)), .unset, .unset, .unset, .unset, .unset, .unset, .unset, .unset, .unset, .unset] [(.int ((i1 &&& (255 : Int32)).toUInt32.toUInt16.toUInt32.toInt32))])) _
    refine XS.istore X305.here hx rfl (hb hby at_60) rfl (l' := #[.val (.int i0), .val (.int i1), .val (.int (Int32.ofNat pl)), .val (.int rv_303), .val (.int rv_304), .val (.int rv_305), .val (.int (Int32.ofNat nl)), .val (.int ((i1 &&& (255 : Int32)).toUInt32.toUInt16.toUInt32.toInt32)), .unset, .unset, .unset, .unset, .unset, .unset, .unset, .unset, .unset]) rfl ?_
    show Steps p.tables e below (T305.setTop (mkF m 62 #[.val (.int i0), .val (.int i1), .val (.int (Int32.ofNat pl)), .val (.int rv_303), .val (.int rv_304), .val (.int rv_305), .val (.int (Int32.ofNat nl)), .val (.int ((i1 &&& (255 : Int32)).toUInt32.toUInt16.toUInt32.toInt32)), .unset, .unset, .unset, .unset, .unset, .unset, .unset, .unset, .unset] [])) _
    exact kk)
  obtain ⟨m0, h_m0⟩ : ∃ z, z = ((i1 &&& (255 : Int32)).toUInt32.toUInt16.toUInt32.toInt32) := ⟨_, rfl⟩
  rw [← h_m0] at pre308
  have hm0 : own_L m0 := by rw [h_m0]; exact own_lat8 _
  have pre309 : ∀ t, Steps p.tables e below (T305.setTop (mkF m 66 #[.val (.int i0), .val (.int i1), .val (.int (Int32.ofNat pl)), .val (.int rv_303), .val (.int rv_304), .val (.int rv_305), .val (.int (Int32.ofNat nl)), .val (.int m0), .unset, .unset, .unset, .unset, .unset, .unset, .unset, .unset, .unset] [(.int (125 : Int32)), (.int m0)])) t → Steps p.tables e below (s₁.setTop (entryFrame m #[(.int i0), (.int i1)] maxLocals)) t := fun t kk => pre308 t (by
    refine XS.iload X305.here hx rfl (hb hby at_62) rfl ?_
    show Steps p.tables e below (T305.setTop (mkF m 64 #[.val (.int i0), .val (.int i1), .val (.int (Int32.ofNat pl)), .val (.int rv_303), .val (.int rv_304), .val (.int rv_305), .val (.int (Int32.ofNat nl)), .val (.int m0), .unset, .unset, .unset, .unset, .unset, .unset, .unset, .unset, .unset] [(.int m0)])) _
    refine XS.bipush X305.here hx rfl (hb hby at_64) ?_
    show Steps p.tables e below (T305.setTop (mkF m 66 #[.val (.int i0), .val (.int i1), .val (.int (Int32.ofNat pl)), .val (.int rv_303), .val (.int rv_304), .val (.int rv_305), .val (.int (Int32.ofNat nl)), .val (.int m0), .unset, .unset, .unset, .unset, .unset, .unset, .unset, .unset, .unset] [(.int (125 : Int32)), (.int m0)])) _
    exact kk)
  obtain ⟨n0_, hn0, hn0', pre310⟩ : ∃ n0_ : Int32, (own_L n0_) ∧ (¬ n0_ = (125 : Int32)) ∧ ∀ t, Steps p.tables e below (T305.setTop (mkF m 73 #[.val (.int i0), .val (.int i1), .val (.int (Int32.ofNat pl)), .val (.int rv_303), .val (.int rv_304), .val (.int rv_305), .val (.int (Int32.ofNat nl)), .val (.int n0_), .unset, .unset, .unset, .unset, .unset, .unset, .unset, .unset, .unset] [])) t → Steps p.tables e below (s₁.setTop (entryFrame m #[(.int i0), (.int i1)] maxLocals)) t := by
    by_cases h125 : m0 = (125 : Int32)
    · have pre311 : ∀ t, Steps p.tables e below (T305.setTop (mkF m 73 #[.val (.int i0), .val (.int i1), .val (.int (Int32.ofNat pl)), .val (.int rv_303), .val (.int rv_304), .val (.int rv_305), .val (.int (Int32.ofNat nl)), .val (.int (124 : Int32)), .unset, .unset, .unset, .unset, .unset, .unset, .unset, .unset, .unset] [])) t → Steps p.tables e below (s₁.setTop (entryFrame m #[(.int i0), (.int i1)] maxLocals)) t := fun t kk => pre309 t (by
        refine XS.icmpNo X305.here hx rfl (hb hby at_66) rfl (teq (h125 : m0 = (125 : Int32))).2 ?_
        show Steps p.tables e below (T305.setTop (mkF m 69 #[.val (.int i0), .val (.int i1), .val (.int (Int32.ofNat pl)), .val (.int rv_303), .val (.int rv_304), .val (.int rv_305), .val (.int (Int32.ofNat nl)), .val (.int m0), .unset, .unset, .unset, .unset, .unset, .unset, .unset, .unset, .unset] [])) _
        refine XS.bipush X305.here hx rfl (hb hby at_69) ?_
        show Steps p.tables e below (T305.setTop (mkF m 71 #[.val (.int i0), .val (.int i1), .val (.int (Int32.ofNat pl)), .val (.int rv_303), .val (.int rv_304), .val (.int rv_305), .val (.int (Int32.ofNat nl)), .val (.int m0), .unset, .unset, .unset, .unset, .unset, .unset, .unset, .unset, .unset] [(.int (124 : Int32))])) _
        refine XS.istore X305.here hx rfl (hb hby at_71) rfl (l' := #[.val (.int i0), .val (.int i1), .val (.int (Int32.ofNat pl)), .val (.int rv_303), .val (.int rv_304), .val (.int rv_305), .val (.int (Int32.ofNat nl)), .val (.int (124 : Int32)), .unset, .unset, .unset, .unset, .unset, .unset, .unset, .unset, .unset]) rfl ?_
        show Steps p.tables e below (T305.setTop (mkF m 73 #[.val (.int i0), .val (.int i1), .val (.int (Int32.ofNat pl)), .val (.int rv_303), .val (.int rv_304), .val (.int rv_305), .val (.int (Int32.ofNat nl)), .val (.int (124 : Int32)), .unset, .unset, .unset, .unset, .unset, .unset, .unset, .unset, .unset] [])) _
        exact kk)
      exact ⟨(124 : Int32), own_Lof (by decide), by decide, pre311⟩
    · have pre312 : ∀ t, Steps p.tables e below (T305.setTop (mkF m 73 #[.val (.int i0), .val (.int i1), .val (.int (Int32.ofNat pl)), .val (.int rv_303), .val (.int rv_304), .val (.int rv_305), .val (.int (Int32.ofNat nl)), .val (.int m0), .unset, .unset, .unset, .unset, .unset, .unset, .unset, .unset, .unset] [])) t → Steps p.tables e below (s₁.setTop (entryFrame m #[(.int i0), (.int i1)] maxLocals)) t := fun t kk => pre309 t (by
        refine XS.icmpYes X305.here hx rfl (pc0 := 66) (pc' := 73) rfl (hb hby at_66) rfl (feq (h125 : ¬ (m0 = (125 : Int32)))).2 (by decide) (by decide) ?_
        show Steps p.tables e below (T305.setTop (mkF m 73 #[.val (.int i0), .val (.int i1), .val (.int (Int32.ofNat pl)), .val (.int rv_303), .val (.int rv_304), .val (.int rv_305), .val (.int (Int32.ofNat nl)), .val (.int m0), .unset, .unset, .unset, .unset, .unset, .unset, .unset, .unset, .unset] [])) _
        exact kk)
      exact ⟨m0, hm0, h125, pre312⟩
  have pre313 : ∀ t, Steps p.tables e below (T305.setTop (mkF m 84 #[.val (.int i0), .val (.int i1), .val (.int (Int32.ofNat pl)), .val (.int rv_303), .val (.int rv_304), .val (.int rv_305), .val (.int (Int32.ofNat nl)), .val (.int n0_), .val (.int ((((i1.toUInt32 >>> ((8 : Int32) &&& 31).toUInt32).toInt32) &&& (255 : Int32)).toUInt32.toUInt16.toUInt32.toInt32)), .unset, .unset, .unset, .unset, .unset, .unset, .unset, .unset] [])) t → Steps p.tables e below (s₁.setTop (entryFrame m #[(.int i0), (.int i1)] maxLocals)) t := fun t kk => pre310 t (by
    refine XS.iloadN X305.here hx rfl (hb hby at_73) rfl ?_
    show Steps p.tables e below (T305.setTop (mkF m 74 #[.val (.int i0), .val (.int i1), .val (.int (Int32.ofNat pl)), .val (.int rv_303), .val (.int rv_304), .val (.int rv_305), .val (.int (Int32.ofNat nl)), .val (.int n0_), .unset, .unset, .unset, .unset, .unset, .unset, .unset, .unset, .unset] [(.int i1)])) _
    refine XS.bipush X305.here hx rfl (hb hby at_74) ?_
    show Steps p.tables e below (T305.setTop (mkF m 76 #[.val (.int i0), .val (.int i1), .val (.int (Int32.ofNat pl)), .val (.int rv_303), .val (.int rv_304), .val (.int rv_305), .val (.int (Int32.ofNat nl)), .val (.int n0_), .unset, .unset, .unset, .unset, .unset, .unset, .unset, .unset, .unset] [(.int (8 : Int32)), (.int i1)])) _
    refine XS.iushr X305.here hx rfl (hb hby at_76) rfl ?_
    show Steps p.tables e below (T305.setTop (mkF m 77 #[.val (.int i0), .val (.int i1), .val (.int (Int32.ofNat pl)), .val (.int rv_303), .val (.int rv_304), .val (.int rv_305), .val (.int (Int32.ofNat nl)), .val (.int n0_), .unset, .unset, .unset, .unset, .unset, .unset, .unset, .unset, .unset] [(.int ((i1.toUInt32 >>> ((8 : Int32) &&& 31).toUInt32).toInt32))])) _
    refine XS.sipush X305.here hx rfl (hb hby at_77) ?_
    show Steps p.tables e below (T305.setTop (mkF m 80 #[.val (.int i0), .val (.int i1), .val (.int (Int32.ofNat pl)), .val (.int rv_303), .val (.int rv_304), .val (.int rv_305), .val (.int (Int32.ofNat nl)), .val (.int n0_), .unset, .unset, .unset, .unset, .unset, .unset, .unset, .unset, .unset] [(.int (255 : Int32)), (.int ((i1.toUInt32 >>> ((8 : Int32) &&& 31).toUInt32).toInt32))])) _
    refine XS.iand X305.here hx rfl (hb hby at_80) rfl ?_
    show Steps p.tables e below (T305.setTop (mkF m 81 #[.val (.int i0), .val (.int i1), .val (.int (Int32.ofNat pl)), .val (.int rv_303), .val (.int rv_304), .val (.int rv_305), .val (.int (Int32.ofNat nl)), .val (.int n0_), .unset, .unset, .unset, .unset, .unset, .unset, .unset, .unset, .unset] [(.int (((i1.toUInt32 >>> ((8 : Int32) &&& 31).toUInt32).toInt32) &&& (255 : Int32)))])) _
    refine XS.i2c X305.here hx rfl (hb hby at_81) rfl ?_
    show Steps p.tables e below (T305.setTop (mkF m 82 #[.val (.int i0), .val (.int i1), .val (.int (Int32.ofNat pl)), .val (.int rv_303), .val (.int rv_304), .val (.int rv_305), .val (.int (Int32.ofNat nl)), .val (.int n0_), .unset, .unset, .unset, .unset, .unset, .unset, .unset, .unset, .unset] [(.int ((((i1.toUInt32 >>> ((8 : Int32) &&& 31).toUInt32).toInt32) &&& (255 : Int32)).toUInt32.toUInt16.toUInt32.toInt32))])) _
    refine XS.istore X305.here hx rfl (hb hby at_82) rfl (l' := #[.val (.int i0), .val (.int i1), .val (.int (Int32.ofNat pl)), .val (.int rv_303), .val (.int rv_304), .val (.int rv_305), .val (.int (Int32.ofNat nl)), .val (.int n0_), .val (.int ((((i1.toUInt32 >>> ((8 : Int32) &&& 31).toUInt32).toInt32) &&& (255 : Int32)).toUInt32.toUInt16.toUInt32.toInt32)), .unset, .unset, .unset, .unset, .unset, .unset, .unset, .unset]) rfl ?_
    show Steps p.tables e below (T305.setTop (mkF m 84 #[.val (.int i0), .val (.int i1), .val (.int (Int32.ofNat pl)), .val (.int rv_303), .val (.int rv_304), .val (.int rv_305), .val (.int (Int32.ofNat nl)), .val (.int n0_), .val (.int ((((i1.toUInt32 >>> ((8 : Int32) &&& 31).toUInt32).toInt32) &&& (255 : Int32)).toUInt32.toUInt16.toUInt32.toInt32)), .unset, .unset, .unset, .unset, .unset, .unset, .unset, .unset] [])) _
    exact kk)
  obtain ⟨n1_, h_n1_⟩ : ∃ z, z = ((((i1.toUInt32 >>> ((8 : Int32) &&& 31).toUInt32).toInt32) &&& (255 : Int32)).toUInt32.toUInt16.toUInt32.toInt32) := ⟨_, rfl⟩
  rw [← h_n1_] at pre313
  have hn1 : own_L n1_ := by rw [h_n1_]; exact own_lat8 _
  have pre314 : ∀ t, Steps p.tables e below (T305.setTop (mkF m 95 #[.val (.int i0), .val (.int i1), .val (.int (Int32.ofNat pl)), .val (.int rv_303), .val (.int rv_304), .val (.int rv_305), .val (.int (Int32.ofNat nl)), .val (.int n0_), .val (.int n1_), .val (.int ((((i1.toUInt32 >>> ((16 : Int32) &&& 31).toUInt32).toInt32) &&& (255 : Int32)).toUInt32.toUInt16.toUInt32.toInt32)), .unset, .unset, .unset, .unset, .unset, .unset, .unset] [])) t → Steps p.tables e below (s₁.setTop (entryFrame m #[(.int i0), (.int i1)] maxLocals)) t := fun t kk => pre313 t (by
    refine XS.iloadN X305.here hx rfl (hb hby at_84) rfl ?_
    show Steps p.tables e below (T305.setTop (mkF m 85 #[.val (.int i0), .val (.int i1), .val (.int (Int32.ofNat pl)), .val (.int rv_303), .val (.int rv_304), .val (.int rv_305), .val (.int (Int32.ofNat nl)), .val (.int n0_), .val (.int n1_), .unset, .unset, .unset, .unset, .unset, .unset, .unset, .unset] [(.int i1)])) _
    refine XS.bipush X305.here hx rfl (hb hby at_85) ?_
    show Steps p.tables e below (T305.setTop (mkF m 87 #[.val (.int i0), .val (.int i1), .val (.int (Int32.ofNat pl)), .val (.int rv_303), .val (.int rv_304), .val (.int rv_305), .val (.int (Int32.ofNat nl)), .val (.int n0_), .val (.int n1_), .unset, .unset, .unset, .unset, .unset, .unset, .unset, .unset] [(.int (16 : Int32)), (.int i1)])) _
    refine XS.iushr X305.here hx rfl (hb hby at_87) rfl ?_
    show Steps p.tables e below (T305.setTop (mkF m 88 #[.val (.int i0), .val (.int i1), .val (.int (Int32.ofNat pl)), .val (.int rv_303), .val (.int rv_304), .val (.int rv_305), .val (.int (Int32.ofNat nl)), .val (.int n0_), .val (.int n1_), .unset, .unset, .unset, .unset, .unset, .unset, .unset, .unset] [(.int ((i1.toUInt32 >>> ((16 : Int32) &&& 31).toUInt32).toInt32))])) _
    refine XS.sipush X305.here hx rfl (hb hby at_88) ?_
    show Steps p.tables e below (T305.setTop (mkF m 91 #[.val (.int i0), .val (.int i1), .val (.int (Int32.ofNat pl)), .val (.int rv_303), .val (.int rv_304), .val (.int rv_305), .val (.int (Int32.ofNat nl)), .val (.int n0_), .val (.int n1_), .unset, .unset, .unset, .unset, .unset, .unset, .unset, .unset] [(.int (255 : Int32)), (.int ((i1.toUInt32 >>> ((16 : Int32) &&& 31).toUInt32).toInt32))])) _
    refine XS.iand X305.here hx rfl (hb hby at_91) rfl ?_
    show Steps p.tables e below (T305.setTop (mkF m 92 #[.val (.int i0), .val (.int i1), .val (.int (Int32.ofNat pl)), .val (.int rv_303), .val (.int rv_304), .val (.int rv_305), .val (.int (Int32.ofNat nl)), .val (.int n0_), .val (.int n1_), .unset, .unset, .unset, .unset, .unset, .unset, .unset, .unset] [(.int (((i1.toUInt32 >>> ((16 : Int32) &&& 31).toUInt32).toInt32) &&& (255 : Int32)))])) _
    refine XS.i2c X305.here hx rfl (hb hby at_92) rfl ?_
    show Steps p.tables e below (T305.setTop (mkF m 93 #[.val (.int i0), .val (.int i1), .val (.int (Int32.ofNat pl)), .val (.int rv_303), .val (.int rv_304), .val (.int rv_305), .val (.int (Int32.ofNat nl)), .val (.int n0_), .val (.int n1_), .unset, .unset, .unset, .unset, .unset, .unset, .unset, .unset] [(.int ((((i1.toUInt32 >>> ((16 : Int32) &&& 31).toUInt32).toInt32) &&& (255 : Int32)).toUInt32.toUInt16.toUInt32.toInt32))])) _
    refine XS.istore X305.here hx rfl (hb hby at_93) rfl (l' := #[.val (.int i0), .val (.int i1), .val (.int (Int32.ofNat pl)), .val (.int rv_303), .val (.int rv_304), .val (.int rv_305), .val (.int (Int32.ofNat nl)), .val (.int n0_), .val (.int n1_), .val (.int ((((i1.toUInt32 >>> ((16 : Int32) &&& 31).toUInt32).toInt32) &&& (255 : Int32)).toUInt32.toUInt16.toUInt32.toInt32)), .unset, .unset, .unset, .unset, .unset, .unset, .unset]) rfl ?_
    show Steps p.tables e below (T305.setTop (mkF m 95 #[.val (.int i0), .val (.int i1), .val (.int (Int32.ofNat pl)), .val (.int rv_303), .val (.int rv_304), .val (.int rv_305), .val (.int (Int32.ofNat nl)), .val (.int n0_), .val (.int n1_), .val (.int ((((i1.toUInt32 >>> ((16 : Int32) &&& 31).toUInt32).toInt32) &&& (255 : Int32)).toUInt32.toUInt16.toUInt32.toInt32)), .unset, .unset, .unset, .unset, .unset, .unset, .unset] [])) _
    exact kk)
  obtain ⟨n2_, h_n2_⟩ : ∃ z, z = ((((i1.toUInt32 >>> ((16 : Int32) &&& 31).toUInt32).toInt32) &&& (255 : Int32)).toUInt32.toUInt16.toUInt32.toInt32) := ⟨_, rfl⟩
  rw [← h_n2_] at pre314
  have hn2 : own_L n2_ := by rw [h_n2_]; exact own_lat8 _
  obtain ⟨T315, h315, ky315, X315, e315, E315, A315, st315⟩ := newP X305 hx hZ0 (hw _ (List.mem_of_getElem? (i := 4) rfl)) e305 (g := (mkF m 96 #[.val (.int i0), .val (.int i1), .val (.int (Int32.ofNat pl)), .val (.int rv_303), .val (.int rv_304), .val (.int rv_305), .val (.int (Int32.ofNat nl)), .val (.int n0_), .val (.int n1_), .val (.int n2_), .unset, .unset, .unset, .unset, .unset, .unset, .unset] [(.int (3 : Int32))])) rfl (hb hby at_96) rfl ((by decide) : ¬ ((3 : Int32) < (0 : Int32))) (cap := 3) ((by decide) : (3 : Int32).toNatClampNeg ≤ 3) (by decide) (by decide) (by decide)
  obtain ⟨b315, g315⟩ : ∃ z, z = h0.size := ⟨_, rfl⟩
  rw [← g315] at A315 st315
  have sf316 : Safe Z [("java/lang/String", 7)] s.vm h0 b315 := Safe.new (Nat.le_of_eq g315.symm)
  have CR317 : CHr Z [("java/lang/String", 7)] s.vm h0 s.vm h315 := CR0.trans (CHr.ext E315 CR0.1)
  have sf318 : Safe Z [("java/lang/String", 7)] s.vm h315 b315 := Safe.ext E315 CR0.1 sf316
  have V315 : Arv Z h315 b315 ky315 .char (3 : Int32) [] (.int (0 : Int32)) := Arv.new A315 (by decide)
  have U315 : Arv Z h315 b315 ky315 .char (3 : Int32) [(.int (0 : Int32)), (.int (0 : Int32)), (.int (0 : Int32))] (.int (0 : Int32)) := V315.pad (pad_rep [] (.int (0 : Int32)) 3)
  have ge320 : n0 ≤ b315 := Nat.le_trans Z0 (Nat.le_trans (Nat.le_refl _) (Nat.le_of_eq g315.symm))
  obtain ⟨cl319, Ar319, qq319, S319, M319, Hh319, U319⟩ := id U315
  obtain ⟨T319, h319, X319, e319, W319, st319⟩ := stC X315 hx hZ0 e315 Ar319 (j := (0 : Int32)) (inb_of S319 ⟨(by decide : ¬ ((0 : Int32) < (0 : Int32))), (by decide : (0 : Int32) < (3 : Int32))⟩) (g := (mkF m 101 #[.val (.int i0), .val (.int i1), .val (.int (Int32.ofNat pl)), .val (.int rv_303), .val (.int rv_304), .val (.int rv_305), .val (.int (Int32.ofNat nl)), .val (.int n0_), .val (.int n1_), .val (.int n2_), .unset, .unset, .unset, .unset, .unset, .unset, .unset] [(.int rv_303), (.int (0 : Int32)), (.ref b315), (.ref b315)])) rfl rfl (hb hby at_101)
  have N319 := Fr.snoc X319 N305 ge320
  have CR321 : CHr Z [("java/lang/String", 7)] s.vm h0 s.vm h319 := CR317.trans (CHr.wr W319 sf318 CR317.1)
  have sf322 : Safe Z [("java/lang/String", 7)] s.vm h319 b315 := Safe.wr W319 sf318 CR317.1 sf318
  have V319 : Arv Z h319 b315 ky315 .char (3 : Int32) [(.int (nar .char rv_303)), (.int (0 : Int32)), (.int (0 : Int32))] (.int (0 : Int32)) := Arv.set Ar319 qq319 S319 M319 Hh319 U319 (fits_nar_char _) W319 0 rfl (Nat.le_of_ble_eq_true rfl)
  have VR319 : Arv Z h319 b315 ky315 .char (3 : Int32) [(.int rv_303), (.int (0 : Int32)), (.int (0 : Int32))] (.int (0 : Int32)) := by have q := V319; rw [hp0.1.1] at q; exact q
  obtain ⟨cl323, Ar323, qq323, S323, M323, Hh323, U323⟩ := id VR319
  obtain ⟨T323, h323, X323, e323, W323, st323⟩ := stC X319 hx hZ0 e319 Ar323 (j := (1 : Int32)) (inb_of S323 ⟨(by decide : ¬ ((1 : Int32) < (0 : Int32))), (by decide : (1 : Int32) < (3 : Int32))⟩) (g := (mkF m 106 #[.val (.int i0), .val (.int i1), .val (.int (Int32.ofNat pl)), .val (.int rv_303), .val (.int rv_304), .val (.int rv_305), .val (.int (Int32.ofNat nl)), .val (.int n0_), .val (.int n1_), .val (.int n2_), .unset, .unset, .unset, .unset, .unset, .unset, .unset] [(.int rv_304), (.int (1 : Int32)), (.ref b315), (.ref b315)])) rfl rfl (hb hby at_106)
  have N323 := Fr.snoc X323 N319 ge320
  have CR324 : CHr Z [("java/lang/String", 7)] s.vm h0 s.vm h323 := CR321.trans (CHr.wr W323 sf322 CR321.1)
  have sf325 : Safe Z [("java/lang/String", 7)] s.vm h323 b315 := Safe.wr W323 sf322 CR321.1 sf322
  have V323 : Arv Z h323 b315 ky315 .char (3 : Int32) [(.int rv_303), (.int (nar .char rv_304)), (.int (0 : Int32))] (.int (0 : Int32)) := Arv.set Ar323 qq323 S323 M323 Hh323 U323 (fits_nar_char _) W323 1 rfl (Nat.le_of_ble_eq_true rfl)
  have VR323 : Arv Z h323 b315 ky315 .char (3 : Int32) [(.int rv_303), (.int rv_304), (.int (0 : Int32))] (.int (0 : Int32)) := by have q := V323; rw [hp1.1.1] at q; exact q
  obtain ⟨cl326, Ar326, qq326, S326, M326, Hh326, U326⟩ := id VR323
  obtain ⟨T326, h326, X326, e326, W326, st326⟩ := stC X323 hx hZ0 e323 Ar326 (j := (2 : Int32)) (inb_of S326 ⟨(by decide : ¬ ((2 : Int32) < (0 : Int32))), (by decide : (2 : Int32) < (3 : Int32))⟩) (g := (mkF m 111 #[.val (.int i0), .val (.int i1), .val (.int (Int32.ofNat pl)), .val (.int rv_303), .val (.int rv_304), .val (.int rv_305), .val (.int (Int32.ofNat nl)), .val (.int n0_), .val (.int n1_), .val (.int n2_), .unset, .unset, .unset, .unset, .unset, .unset, .unset] [(.int rv_305), (.int (2 : Int32)), (.ref b315), (.ref b315)])) rfl rfl (hb hby at_111)
  have N326 := Fr.snoc X326 N323 ge320
  have CR327 : CHr Z [("java/lang/String", 7)] s.vm h0 s.vm h326 := CR324.trans (CHr.wr W326 sf325 CR324.1)
  have sf328 : Safe Z [("java/lang/String", 7)] s.vm h326 b315 := Safe.wr W326 sf325 CR324.1 sf325
  have V326 : Arv Z h326 b315 ky315 .char (3 : Int32) [(.int rv_303), (.int rv_304), (.int (nar .char rv_305))] (.int (0 : Int32)) := Arv.set Ar326 qq326 S326 M326 Hh326 U326 (fits_nar_char _) W326 2 rfl (Nat.le_of_ble_eq_true rfl)
  have VR326 : Arv Z h326 b315 ky315 .char (3 : Int32) [(.int rv_303), (.int rv_304), (.int rv_305)] (.int (0 : Int32)) := by have q := V326; rw [hp2.1.1] at q; exact q
  obtain ⟨T329, h329, ky329, X329, e329, E329, A329, st329⟩ := newP X326 hx hZ0 (hw _ (List.mem_of_getElem? (i := 4) rfl)) e326 (g := (mkF m 115 #[.val (.int i0), .val (.int i1), .val (.int (Int32.ofNat pl)), .val (.int rv_303), .val (.int rv_304), .val (.int rv_305), .val (.int (Int32.ofNat nl)), .val (.int n0_), .val (.int n1_), .val (.int n2_), .val (.ref b315), .unset, .unset, .unset, .unset, .unset, .unset] [(.int (3 : Int32))])) rfl (hb hby at_115) rfl ((by decide) : ¬ ((3 : Int32) < (0 : Int32))) (cap := 3) ((by decide) : (3 : Int32).toNatClampNeg ≤ 3) (by decide) (by decide) (by decide)
  obtain ⟨b329, g329⟩ : ∃ z, z = h326.size := ⟨_, rfl⟩
  rw [← g329] at A329 st329
  have sf330 : Safe Z [("java/lang/String", 7)] s.vm h326 b329 := Safe.new (Nat.le_of_eq g329.symm)
  have CR331 : CHr Z [("java/lang/String", 7)] s.vm h0 s.vm h329 := CR327.trans (CHr.ext E329 CR327.1)
  have sf332 : Safe Z [("java/lang/String", 7)] s.vm h329 b315 := Safe.ext E329 CR327.1 sf328
  have sf333 : Safe Z [("java/lang/String", 7)] s.vm h329 b329 := Safe.ext E329 CR327.1 sf330
  have V329 : Arv Z h329 b329 ky329 .char (3 : Int32) [] (.int (0 : Int32)) := Arv.new A329 (by decide)
  have U329 : Arv Z h329 b329 ky329 .char (3 : Int32) [(.int (0 : Int32)), (.int (0 : Int32)), (.int (0 : Int32))] (.int (0 : Int32)) := V329.pad (pad_rep [] (.int (0 : Int32)) 3)
  have ge335 : n0 ≤ b329 := Nat.le_trans Z0 (Nat.le_trans (Nat.le_trans (Nat.le_trans (Nat.le_trans E315.1 (Keep.of_wr W319).1) (Keep.of_wr W323).1) (Keep.of_wr W326).1) (Nat.le_of_eq g329.symm))
  obtain ⟨cl334, Ar334, qq334, S334, M334, Hh334, U334⟩ := id U329
  obtain ⟨T334, h334, X334, e334, W334, st334⟩ := stC X329 hx hZ0 e329 Ar334 (j := (0 : Int32)) (inb_of S334 ⟨(by decide : ¬ ((0 : Int32) < (0 : Int32))), (by decide : (0 : Int32) < (3 : Int32))⟩) (g := (mkF m 121 #[.val (.int i0), .val (.int i1), .val (.int (Int32.ofNat pl)), .val (.int rv_303), .val (.int rv_304), .val (.int rv_305), .val (.int (Int32.ofNat nl)), .val (.int n0_), .val (.int n1_), .val (.int n2_), .val (.ref b315), .unset, .unset, .unset, .unset, .unset, .unset] [(.int n0_), (.int (0 : Int32)), (.ref b329), (.ref b329)])) rfl rfl (hb hby at_121)
  have N334 := Fr.snoc X334 N326 ge335
  have CR336 : CHr Z [("java/lang/String", 7)] s.vm h0 s.vm h334 := CR331.trans (CHr.wr W334 sf333 CR331.1)
  have sf337 : Safe Z [("java/lang/String", 7)] s.vm h334 b315 := Safe.wr W334 sf333 CR331.1 sf332
  have sf338 : Safe Z [("java/lang/String", 7)] s.vm h334 b329 := Safe.wr W334 sf333 CR331.1 sf333
  have V334 : Arv Z h334 b329 ky329 .char (3 : Int32) [(.int (nar .char n0_)), (.int (0 : Int32)), (.int (0 : Int32))] (.int (0 : Int32)) := Arv.set Ar334 qq334 S334 M334 Hh334 U334 (fits_nar_char _) W334 0 rfl (Nat.le_of_ble_eq_true rfl)
  have VR334 : Arv Z h334 b329 ky329 .char (3 : Int32) [(.int n0_), (.int (0 : Int32)), (.int (0 : Int32))] (.int (0 : Int32)) := by have q := V334; rw [hn0.1] at q; exact q
  obtain ⟨cl339, Ar339, qq339, S339, M339, Hh339, U339⟩ := id VR334
  obtain ⟨T339, h339, X339, e339, W339, st339⟩ := stC X334 hx hZ0 e334 Ar339 (j := (1 : Int32)) (inb_of S339 ⟨(by decide : ¬ ((1 : Int32) < (0 : Int32))), (by decide : (1 : Int32) < (3 : Int32))⟩) (g := (mkF m 126 #[.val (.int i0), .val (.int i1), .val (.int (Int32.ofNat pl)), .val (.int rv_303), .val (.int rv_304), .val (.int rv_305), .val (.int (Int32.ofNat nl)), .val (.int n0_), .val (.int n1_), .val (.int n2_), .val (.ref b315), .unset, .unset, .unset, .unset, .unset, .unset] [(.int n1_), (.int (1 : Int32)), (.ref b329), (.ref b329)])) rfl rfl (hb hby at_126)
  have N339 := Fr.snoc X339 N334 ge335
  have CR340 : CHr Z [("java/lang/String", 7)] s.vm h0 s.vm h339 := CR336.trans (CHr.wr W339 sf338 CR336.1)
  have sf341 : Safe Z [("java/lang/String", 7)] s.vm h339 b315 := Safe.wr W339 sf338 CR336.1 sf337
  have sf342 : Safe Z [("java/lang/String", 7)] s.vm h339 b329 := Safe.wr W339 sf338 CR336.1 sf338
  have V339 : Arv Z h339 b329 ky329 .char (3 : Int32) [(.int n0_), (.int (nar .char n1_)), (.int (0 : Int32))] (.int (0 : Int32)) := Arv.set Ar339 qq339 S339 M339 Hh339 U339 (fits_nar_char _) W339 1 rfl (Nat.le_of_ble_eq_true rfl)
  have VR339 : Arv Z h339 b329 ky329 .char (3 : Int32) [(.int n0_), (.int n1_), (.int (0 : Int32))] (.int (0 : Int32)) := by have q := V339; rw [hn1.1] at q; exact q
  obtain ⟨cl343, Ar343, qq343, S343, M343, Hh343, U343⟩ := id VR339
  obtain ⟨T343, h343, X343, e343, W343, st343⟩ := stC X339 hx hZ0 e339 Ar343 (j := (2 : Int32)) (inb_of S343 ⟨(by decide : ¬ ((2 : Int32) < (0 : Int32))), (by decide : (2 : Int32) < (3 : Int32))⟩) (g := (mkF m 131 #[.val (.int i0), .val (.int i1), .val (.int (Int32.ofNat pl)), .val (.int rv_303), .val (.int rv_304), .val (.int rv_305), .val (.int (Int32.ofNat nl)), .val (.int n0_), .val (.int n1_), .val (.int n2_), .val (.ref b315), .unset, .unset, .unset, .unset, .unset, .unset] [(.int n2_), (.int (2 : Int32)), (.ref b329), (.ref b329)])) rfl rfl (hb hby at_131)
  have N343 := Fr.snoc X343 N339 ge335
  have CR344 : CHr Z [("java/lang/String", 7)] s.vm h0 s.vm h343 := CR340.trans (CHr.wr W343 sf342 CR340.1)
  have sf345 : Safe Z [("java/lang/String", 7)] s.vm h343 b315 := Safe.wr W343 sf342 CR340.1 sf341
  have sf346 : Safe Z [("java/lang/String", 7)] s.vm h343 b329 := Safe.wr W343 sf342 CR340.1 sf342
  have V343 : Arv Z h343 b329 ky329 .char (3 : Int32) [(.int n0_), (.int n1_), (.int (nar .char n2_))] (.int (0 : Int32)) := Arv.set Ar343 qq343 S343 M343 Hh343 U343 (fits_nar_char _) W343 2 rfl (Nat.le_of_ble_eq_true rfl)
  have VR343 : Arv Z h343 b329 ky329 .char (3 : Int32) [(.int n0_), (.int n1_), (.int n2_)] (.int (0 : Int32)) := by have q := V343; rw [hn2.1] at q; exact q
  have c347 : Old Z n0 h343 := ((((((((q4.ext E315).wr W319 ge320).wr W323 ge320).wr W326 ge320).ext E329).wr W334 ge335).wr W339 ge335).wr W343 ge335)
  obtain ⟨_, _, ⟨T348, L348, k348, n348⟩, -, X348', hS348', hz348', ⟨Lc348, hQ348, l348, y348, z348, ch348⟩, st348⟩ := callSS X343 hx (y := (⟨"com/example/holdfast/holdfast/redis/LockKeysLockKeyPinLaw", "str", "(ICCC)Ljava/lang/String;"⟩ : MethodName)) hown0 (mvT hZ0 (hw _ (List.mem_of_getElem? (i := 5) rfl))) (mvT hZ0 (hw _ (List.mem_of_getElem? (i := 6) rfl))) (mvT hZ0 (hw _ (List.mem_of_getElem? (i := 2) rfl))) (mvT hZ0 (hw _ (List.mem_of_getElem? (i := 7) rfl))) (by decide) (backOfSH (W := 0) (rm_str l Z a0 hw [] pl rv_303 rv_304 rv_305 G h343 n0 (Nat.le_trans Z0 (Nat.le_trans (Nat.le_trans (Nat.le_trans (Nat.le_trans (Nat.le_trans (Nat.le_trans (Nat.le_trans E315.1 (Keep.of_wr W319).1) (Keep.of_wr W323).1) (Keep.of_wr W326).1) E329.1) (Keep.of_wr W334).1) (Keep.of_wr W339).1) (Keep.of_wr W343).1)) q0 hCS c347 (own_le3 hb_pl) (hp0.1) (hp1.1) (hp2.1)) hZ0 (hw _ (List.mem_of_getElem? (i := 7) rfl)) (hw _ (List.mem_of_getElem? (i := 2) rfl)) (by decide) (by decide) (own_EW hw) CR344.1) (g := (mkF m 140 #[.val (.int i0), .val (.int i1), .val (.int (Int32.ofNat pl)), .val (.int rv_303), .val (.int rv_304), .val (.int rv_305), .val (.int (Int32.ofNat nl)), .val (.int n0_), .val (.int n1_), .val (.int n2_), .val (.ref b315), .val (.ref b329), .unset, .unset, .unset, .unset, .unset] [(.int rv_305), (.int rv_304), (.int rv_303), (.int (Int32.ofNat pl))])) rfl (by rw [hml]; rfl) (argsL := [(.int (Int32.ofNat pl)), (.int rv_303), (.int rv_304), (.int rv_305)]) (rest := []) (lenOf pd_28 rfl) rfl (by show 2 * 0 + _ ≤ _; exact Nat.le_of_eq rfl) (hb hby at_140) (fun _ _ => ⟨rfl, e343, (by decide : 2 + 6 ≤ _), (by decide : 6 + 12 ≤ _)⟩)
  dsimp only [Pt.U, Pt.locs, Pt.cells, Pt.slots] at X348' l348 y348 z348 st348 hQ348 hS348' hz348' ch348
  subst l348 y348 z348
  obtain ⟨xr_348, tt_348, kt_348, nn_348, vs_348, rfl, Nq348, K348, f348_0, f348_1, f348_2, f348_3, f348_4, f348_5⟩ := hQ348
  have N348 := Fr.app N343 Nq348
  obtain ⟨X348, hS348, hZ348, hown348⟩ := rebS hS0 (by rw [e343]; exact (Nat.le_trans hk0 (Nat.le_trans (Nat.le_trans (Nat.le_trans (Nat.le_trans (Nat.le_trans (Nat.le_trans (Nat.le_trans E315.1 (Keep.of_wr W319).1) (Keep.of_wr W323).1) (Keep.of_wr W326).1) E329.1) (Keep.of_wr W334).1) (Keep.of_wr W339).1) (Keep.of_wr W343).1))) X348' hS348' hz348' hZ0 hown0
  have CR349 : CHr Z [("java/lang/String", 7)] s.vm h0 T348.vm T348.heap := CR344.trans ch348
  have sf350 : Safe Z [("java/lang/String", 7)] T348.vm T348.heap b315 := ch348.safe (Nat.lt_of_lt_of_le VR326.lt (Nat.le_trans (Nat.le_trans (Nat.le_trans E329.1 (Keep.of_wr W334).1) (Keep.of_wr W339).1) (Keep.of_wr W343).1)) sf345
  have sf351 : Safe Z [("java/lang/String", 7)] T348.vm T348.heap b329 := ch348.safe VR343.lt sf346
  have c352 : Old Z n0 T348.heap := (c347.keep K348 all0)
  obtain ⟨_, _, ⟨T353, L353, k353, n353⟩, -, X353', hS353', hz353', ⟨Lc353, hQ353, l353, y353, z353, ch353⟩, st353⟩ := callSS X348 hx (y := (⟨"com/example/holdfast/holdfast/redis/LockKeysLockKeyPinLaw", "str", "(ICCC)Ljava/lang/String;"⟩ : MethodName)) hown348 (mvT hZ348 (hw _ (List.mem_of_getElem? (i := 5) rfl))) (mvT hZ348 (hw _ (List.mem_of_getElem? (i := 6) rfl))) (mvT hZ348 (hw _ (List.mem_of_getElem? (i := 2) rfl))) (mvT hZ348 (hw _ (List.mem_of_getElem? (i := 7) rfl))) (by decide) (backOfSH (W := 0) (rm_str l Z a0 hw [] nl n0_ n1_ n2_ G T348.heap n0 (Nat.le_trans Z0 (Nat.le_trans (Nat.le_trans (Nat.le_trans (Nat.le_trans (Nat.le_trans (Nat.le_trans (Nat.le_trans (Nat.le_trans E315.1 (Keep.of_wr W319).1) (Keep.of_wr W323).1) (Keep.of_wr W326).1) E329.1) (Keep.of_wr W334).1) (Keep.of_wr W339).1) (Keep.of_wr W343).1) K348.1)) q0 hCS c352 (own_le3 hb_nl.2) (hn0) (hn1) (hn2)) hZ348 (hw _ (List.mem_of_getElem? (i := 7) rfl)) (hw _ (List.mem_of_getElem? (i := 2) rfl)) (by decide) (by decide) (own_EW hw) CR349.1) (g := (mkF m 153 #[.val (.int i0), .val (.int i1), .val (.int (Int32.ofNat pl)), .val (.int rv_303), .val (.int rv_304), .val (.int rv_305), .val (.int (Int32.ofNat nl)), .val (.int n0_), .val (.int n1_), .val (.int n2_), .val (.ref b315), .val (.ref b329), .val (.ref xr_348), .unset, .unset, .unset, .unset] [(.int n2_), (.int n1_), (.int n0_), (.int (Int32.ofNat nl))])) rfl (by rw [hml]; rfl) (argsL := [(.int (Int32.ofNat nl)), (.int n0_), (.int n1_), (.int n2_)]) (rest := []) (lenOf pd_28 rfl) rfl (by show 2 * 0 + _ ≤ _; exact Nat.le_of_eq rfl) (hb hby at_153) (fun _ _ => ⟨rfl, rfl, (by decide : 8 + 6 ≤ _), (by decide : 18 + 12 ≤ _)⟩)
  dsimp only [Pt.U, Pt.locs, Pt.cells, Pt.slots] at X353' l353 y353 z353 st353 hQ353 hS353' hz353' ch353
  subst l353 y353 z353
  obtain ⟨xr_353, tt_353, kt_353, nn_353, vs_353, rfl, Nq353, K353, f353_0, f353_1, f353_2, f353_3, f353_4, f353_5⟩ := hQ353
  have N353 := Fr.app N348 Nq353
  obtain ⟨X353, hS353, hZ353, hown353⟩ := rebS hS348 (Nat.le_refl _) X353' hS353' hz353' hZ348 hown348
  have CR354 : CHr Z [("java/lang/String", 7)] s.vm h0 T353.vm T353.heap := CR349.trans ch353
  have sf355 : Safe Z [("java/lang/String", 7)] T353.vm T353.heap b315 := ch353.safe (Nat.lt_of_lt_of_le VR326.lt (Nat.le_trans (Nat.le_trans (Nat.le_trans (Nat.le_trans E329.1 (Keep.of_wr W334).1) (Keep.of_wr W339).1) (Keep.of_wr W343).1) K348.1)) sf350
  have sf356 : Safe Z [("java/lang/String", 7)] T353.vm T353.heap b329 := ch353.safe (Nat.lt_of_lt_of_le VR343.lt K348.1) sf351
  have hP3 : ∀ c ∈ ([rv_303, rv_304, rv_305] : List Int32), own_L c ∧ ¬ c = (123 : Int32) := by intro c hc; simp only [List.mem_cons, List.not_mem_nil, or_false] at hc; rcases hc with rfl | rfl | rfl <;> assumption
  have hN3 : ∀ c ∈ ([n0_, n1_, n2_] : List Int32), own_L c := by intro c hc; simp only [List.mem_cons, List.not_mem_nil, or_false] at hc; rcases hc with rfl | rfl | rfl <;> assumption
  have c357 : Fld Z T353.heap xr_348 "java/lang/String" "value" "[B" (.ref tt_348) := (f348_2.keep K353 nin0)
  have c358 : Arv Z T353.heap tt_348 kt_348 .byte nn_348 vs_348 (.int 0) := (f348_4.keep K353 nin0)
  obtain ⟨hNa, hVa⟩ := own_cod0 f348_5
  have hcda : StrChars.Road.CodA (([rv_303, rv_304, rv_305] : List Int32).take pl) 0 (Int32.ofNat (([rv_303, rv_304, rv_305] : List Int32).take pl).length) (own_bs (([rv_303, rv_304, rv_305] : List Int32).take pl)) := by have q := f348_5; rw [hNa, hVa] at q; exact q
  have R359 : Arv Z T353.heap tt_348 kt_348 .byte (Int32.ofNat (([rv_303, rv_304, rv_305] : List Int32).take pl).length) (own_bs (([rv_303, rv_304, rv_305] : List Int32).take pl)) (.int 0) := by have q := c358; rw [hNa, hVa] at q; exact q
  obtain ⟨hNb, hVb⟩ := own_cod0 f353_5
  have hcdb : StrChars.Road.CodA (([n0_, n1_, n2_] : List Int32).take nl) 0 (Int32.ofNat (([n0_, n1_, n2_] : List Int32).take nl).length) (own_bs (([n0_, n1_, n2_] : List Int32).take nl)) := by have q := f353_5; rw [hNb, hVb] at q; exact q
  have R360 : Arv Z T353.heap tt_353 kt_353 .byte (Int32.ofNat (([n0_, n1_, n2_] : List Int32).take nl).length) (own_bs (([n0_, n1_, n2_] : List Int32).take nl)) (.int 0) := by have q := f353_4; rw [hNb, hVb] at q; exact q
  have hlp : (([rv_303, rv_304, rv_305] : List Int32).take pl).length = pl := by rw [List.length_take]; show min pl 3 = pl; omega
  have hln_ : (([n0_, n1_, n2_] : List Int32).take nl).length = nl := by rw [List.length_take]; show min nl 3 = nl; omega
  have hbp : ∀ c ∈ (([rv_303, rv_304, rv_305] : List Int32).take pl), ¬ c < 0 ∧ ¬ (65535 : Int32) < c := own_up _ (fun c hc => (hP3 c (List.mem_of_mem_take hc)).1.2)
  have hbn : ∀ c ∈ (([n0_, n1_, n2_] : List Int32).take nl), ¬ c < 0 ∧ ¬ (65535 : Int32) < c := own_up _ (fun c hc => (hN3 c (List.mem_of_mem_take hc)).2)
  obtain ⟨T361, h361, X361, e361, E361, A361, D361, -, st361⟩ := newO X353 hx hZ353 hown353 (hw _ (List.mem_of_getElem? (i := 40) rfl)) (hw _ (List.mem_of_getElem? (i := 41) rfl)) (hw _ (List.mem_of_getElem? (i := 42) rfl)) rfl (g := (mkF m 158 #[.val (.int i0), .val (.int i1), .val (.int (Int32.ofNat pl)), .val (.int rv_303), .val (.int rv_304), .val (.int rv_305), .val (.int (Int32.ofNat nl)), .val (.int n0_), .val (.int n1_), .val (.int n2_), .val (.ref b315), .val (.ref b329), .val (.ref xr_348), .val (.ref xr_353), .unset, .unset, .unset] [])) rfl (hb hby at_158) (by decide) (by decide)
  obtain ⟨b361, g361⟩ : ∃ z, z = T353.heap.size := ⟨_, rfl⟩
  rw [← g361] at A361 D361 st361
  have sf362 : Safe Z [("java/lang/String", 7)] T353.vm T353.heap b361 := Safe.new (Nat.le_of_eq g361.symm)
  have CR363 : CHr Z [("java/lang/String", 7)] s.vm h0 T353.vm h361 := CR354.trans (CHr.ext E361 CR354.1)
  have sf364 : Safe Z [("java/lang/String", 7)] T353.vm h361 b315 := Safe.ext E361 CR354.1 sf355
  have sf365 : Safe Z [("java/lang/String", 7)] T353.vm h361 b329 := Safe.ext E361 CR354.1 sf356
  have sf366 : Safe Z [("java/lang/String", 7)] T353.vm h361 b361 := Safe.ext E361 CR354.1 sf362
  have D361__prefix : Fld Z h361 b361 "com/example/holdfast/holdfast/redis/LockKeys" "_prefix" "Ljava/lang/String;" .null := D361 (Or.inr (hw _ (List.mem_of_getElem? (i := 92) rfl))) (ty := (.object "java/lang/String")) (by decide)
  have c367 : Old Z n0 h361 := ((c352.keep K353 all0).ext E361)
  have c368 : Exa Z h361 xr_348 "java/lang/String" := ((f348_1.keep K353).ext E361)
  have c369 : Fld Z h361 xr_348 "java/lang/String" "value" "[B" (.ref tt_348) := (c357.ext E361)
  have c370 : Fld Z h361 xr_348 "java/lang/String" "coder" "B" (.int (0 : Int32)) := ((f348_3.keep K353 nin0).ext E361)
  have c371 : Arv Z h361 tt_348 kt_348 .byte (Int32.ofNat (([rv_303, rv_304, rv_305] : List Int32).take pl).length) (own_bs (([rv_303, rv_304, rv_305] : List Int32).take pl)) (.int 0) := (R359.ext E361)
  have ge372 : n0 ≤ b361 := Nat.le_trans Z0 (Nat.le_trans (Nat.le_trans (Nat.le_trans (Nat.le_trans (Nat.le_trans (Nat.le_trans (Nat.le_trans (Nat.le_trans (Nat.le_trans (Nat.le_trans E315.1 (Keep.of_wr W319).1) (Keep.of_wr W323).1) (Keep.of_wr W326).1) E329.1) (Keep.of_wr W334).1) (Keep.of_wr W339).1) (Keep.of_wr W343).1) K348.1) K353.1) (Nat.le_of_eq g361.symm))
  have ne373 : xr_348 ≠ b361 := Nat.ne_of_lt (Nat.lt_of_lt_of_le (Nat.lt_of_lt_of_le f348_2.lt K353.1) (Nat.le_of_eq g361.symm))
  have ne374 : tt_348 ≠ b361 := Nat.ne_of_lt (Nat.lt_of_lt_of_le (Nat.lt_of_lt_of_le f348_4.lt K353.1) (Nat.le_of_eq g361.symm))
  obtain ⟨_, _, ⟨T375, L375, k375, n375⟩, -, X375', hS375', hz375', ⟨Lc375, hQ375, l375, y375, z375, ch375⟩, st375⟩ := X361.specialBackS hx (y := (⟨"com/example/holdfast/holdfast/redis/LockKeys", "<init>", "(Ljava/lang/String;)V"⟩ : MethodName)) rfl hown353 (mvT hZ353 (hw _ (List.mem_of_getElem? (i := 43) rfl))) (mvT hZ353 (hw _ (List.mem_of_getElem? (i := 44) rfl))) (mvT hZ353 (hw _ (List.mem_of_getElem? (i := 45) rfl))) (by decide) (backOfSH (W := 1) (rm_lkI l Z a0 hw [] b361 xr_348 tt_348 kt_348 (([rv_303, rv_304, rv_305] : List Int32).take pl) G h361 n0 (Nat.le_trans Z0 (Nat.le_trans (Nat.le_trans (Nat.le_trans (Nat.le_trans (Nat.le_trans (Nat.le_trans (Nat.le_trans (Nat.le_trans (Nat.le_trans (Nat.le_trans E315.1 (Keep.of_wr W319).1) (Keep.of_wr W323).1) (Keep.of_wr W326).1) E329.1) (Keep.of_wr W334).1) (Keep.of_wr W339).1) (Keep.of_wr W343).1) K348.1) K353.1) E361.1)) q0 hCS c367 c368 c369 c370 c371 (hcda) (hbp) (by omega) (fun c hc => hP3 c (List.mem_of_mem_take hc)) A361 D361__prefix ge372 ne373 ne374) hZ353 (hw _ (List.mem_of_getElem? (i := 45) rfl)) (hw _ (List.mem_of_getElem? (i := 42) rfl)) (by decide) (by decide) (own_EW hw) CR363.1) (g := (mkF m 164 #[.val (.int i0), .val (.int i1), .val (.int (Int32.ofNat pl)), .val (.int rv_303), .val (.int rv_304), .val (.int rv_305), .val (.int (Int32.ofNat nl)), .val (.int n0_), .val (.int n1_), .val (.int n2_), .val (.ref b315), .val (.ref b329), .val (.ref xr_348), .val (.ref xr_353), .unset, .unset, .unset] [(.ref xr_348), (.ref b361), (.ref b361)])) rfl (by rw [hml]; rfl) (Steps.refl _) (a := b361) (argsL := [(.ref xr_348)]) (rest := [(.ref b361)]) (lenOf pd_3 rfl) rfl (by show 2 * 0 + _ ≤ _; exact Nat.le_of_eq rfl) (hb hby at_164) (fun _ _ => ⟨rfl, e361, (by decide : 15 + 2 ≤ _), (by decide : 31 + 28 ≤ _)⟩)
  dsimp only [Pt.U, Pt.locs, Pt.cells, Pt.slots] at X375' l375 y375 z375 st375 hQ375 hS375' hz375' ch375
  subst l375 y375 z375
  obtain ⟨rfl, Nq375, K375, f375_0⟩ := hQ375
  have N375 := Fr.app N353 Nq375
  obtain ⟨X375, hS375, hZ375, hown375⟩ := rebS hS353 (by rw [e361]; exact (Nat.le_trans (Nat.le_refl _) E361.1)) X375' hS375' hz375' hZ353 hown353
  have CR376 : CHr Z [("java/lang/String", 7)] s.vm h0 T375.vm T375.heap := CR363.trans ch375
  have sf377 : Safe Z [("java/lang/String", 7)] T375.vm T375.heap b315 := ch375.safe (Nat.lt_of_lt_of_le VR326.lt (Nat.le_trans (Nat.le_trans (Nat.le_trans (Nat.le_trans (Nat.le_trans (Nat.le_trans E329.1 (Keep.of_wr W334).1) (Keep.of_wr W339).1) (Keep.of_wr W343).1) K348.1) K353.1) E361.1)) sf364
  have sf378 : Safe Z [("java/lang/String", 7)] T375.vm T375.heap b329 := ch375.safe (Nat.lt_of_lt_of_le VR343.lt (Nat.le_trans (Nat.le_trans K348.1 K353.1) E361.1)) sf365
  have sf379 : Safe Z [("java/lang/String", 7)] T375.vm T375.heap b361 := ch375.safe A361.lt sf366
  have c380 : Exa Z T375.heap b361 "com/example/holdfast/holdfast/redis/LockKeys" := (A361.keep K375)
  have c381 : Old Z n0 T375.heap := (c367.keep K375 (allS ge372 all0))
  have c382 : Exa Z T375.heap xr_348 "java/lang/String" := (c368.keep K375)
  have c383 : Fld Z T375.heap xr_348 "java/lang/String" "value" "[B" (.ref tt_348) := (c369.keep K375 (ninS ne373 nin0))
  have c384 : Fld Z T375.heap xr_348 "java/lang/String" "coder" "B" (.int (0 : Int32)) := (c370.keep K375 (ninS ne373 nin0))
  have c385 : Arv Z T375.heap tt_348 kt_348 .byte (Int32.ofNat (([rv_303, rv_304, rv_305] : List Int32).take pl).length) (own_bs (([rv_303, rv_304, rv_305] : List Int32).take pl)) (.int 0) := (c371.keep K375 (ninS ne374 nin0))
  have c386 : Exa Z T375.heap xr_353 "java/lang/String" := ((f353_1.ext E361).keep K375)
  have ne387 : xr_353 ≠ b361 := Nat.ne_of_lt (Nat.lt_of_lt_of_le f353_2.lt (Nat.le_of_eq g361.symm))
  have c388 : Fld Z T375.heap xr_353 "java/lang/String" "value" "[B" (.ref tt_353) := ((f353_2.ext E361).keep K375 (ninS ne387 nin0))
  have c389 : Fld Z T375.heap xr_353 "java/lang/String" "coder" "B" (.int (0 : Int32)) := ((f353_3.ext E361).keep K375 (ninS ne387 nin0))
  have ne390 : tt_353 ≠ b361 := Nat.ne_of_lt (Nat.lt_of_lt_of_le R360.lt (Nat.le_of_eq g361.symm))
  have c391 : Arv Z T375.heap tt_353 kt_353 .byte (Int32.ofNat (([n0_, n1_, n2_] : List Int32).take nl).length) (own_bs (([n0_, n1_, n2_] : List Int32).take nl)) (.int 0) := ((R360.ext E361).keep K375 (ninS ne390 nin0))
  obtain ⟨cq392, kq392, q392a, q392b, q392c⟩ := isOf hZ375 rfl c380
  obtain ⟨_, _, ⟨T392, L392, k392, n392⟩, -, X392', hS392', hz392', ⟨Lc392, hQ392, l392, y392, z392, ch392⟩, st392⟩ := X375.virtualBackS hx (y := (⟨"com/example/holdfast/holdfast/redis/LockKeys", "lockKey", "(Ljava/lang/String;)Ljava/lang/String;"⟩ : MethodName)) (z := (⟨"com/example/holdfast/holdfast/redis/LockKeys", "lockKey", "(Ljava/lang/String;)Ljava/lang/String;"⟩ : MethodName)) hown375 (mvT hZ375 (hw _ (List.mem_of_getElem? (i := 93) rfl))) (mvT hZ375 (hw _ (List.mem_of_getElem? (i := 94) rfl))) (notFace_of_selects (args := #[]) (mvT hZ375 (hw _ (List.mem_of_getElem? (i := 96) rfl)))) (mvT hZ375 (hw _ (List.mem_of_getElem? (i := 96) rfl))) (mvT hZ375 (hw _ (List.mem_of_getElem? (i := 95) rfl))) (by decide) (backOfSH (W := 0) (rm_lkK l Z a0 hw [] b361 xr_353 xr_348 tt_348 kt_348 (([rv_303, rv_304, rv_305] : List Int32).take pl) tt_353 kt_353 (([n0_, n1_, n2_] : List Int32).take nl) G fm T375.heap n0 (Nat.le_trans Z0 (Nat.le_trans (Nat.le_trans (Nat.le_trans (Nat.le_trans (Nat.le_trans (Nat.le_trans (Nat.le_trans (Nat.le_trans (Nat.le_trans (Nat.le_trans (Nat.le_trans E315.1 (Keep.of_wr W319).1) (Keep.of_wr W323).1) (Keep.of_wr W326).1) E329.1) (Keep.of_wr W334).1) (Keep.of_wr W339).1) (Keep.of_wr W343).1) K348.1) K353.1) E361.1) K375.1)) q0 hCS q2 hFM c381 f375_0 c382 c383 c384 c385 (hcda) (hbp) (by omega) c386 c388 c389 c391 (hcdb) (hbn) (by omega) (by omega) (own_take0 hb_nl.1 hn0') (by omega) (by omega)) hZ375 (hw _ (List.mem_of_getElem? (i := 97) rfl)) (hw _ (List.mem_of_getElem? (i := 42) rfl)) (by decide) (by decide) (own_EW hw) CR376.1) q392a q392c (g := (mkF m 173 #[.val (.int i0), .val (.int i1), .val (.int (Int32.ofNat pl)), .val (.int rv_303), .val (.int rv_304), .val (.int rv_305), .val (.int (Int32.ofNat nl)), .val (.int n0_), .val (.int n1_), .val (.int n2_), .val (.ref b315), .val (.ref b329), .val (.ref xr_348), .val (.ref xr_353), .val (.ref b361), .unset, .unset] [(.ref xr_353), (.ref b361)])) rfl (by rw [hml]; rfl) (Steps.refl _) (argsL := [(.ref xr_353)]) (rest := []) (lenOf pd_29 rfl) rfl (by show 2 * 0 + _ ≤ _; exact Nat.le_of_eq rfl) (hb hby at_173) (fun _ _ => ⟨rfl, rfl, (by decide : 17 + 6 ≤ _), (by decide : 59 + 60 ≤ _)⟩)
  dsimp only [Pt.U, Pt.locs, Pt.cells, Pt.slots] at X392' l392 y392 z392 st392 hQ392 hS392' hz392' ch392
  subst l392 y392 z392
  obtain ⟨xr_392, tt_392, kt_392, rfl, Nq392, K392, f392_0, f392_1, f392_2, f392_3, f392_4⟩ := hQ392
  have N392 := Fr.app N375 Nq392
  obtain ⟨X392, hS392, hZ392, hown392⟩ := rebS hS375 (Nat.le_refl _) X392' hS392' hz392' hZ375 hown375
  have CR393 : CHr Z [("java/lang/String", 7)] s.vm h0 T392.vm T392.heap := CR376.trans ch392
  have sf394 : Safe Z [("java/lang/String", 7)] T392.vm T392.heap b315 := ch392.safe (Nat.lt_of_lt_of_le VR326.lt (Nat.le_trans (Nat.le_trans (Nat.le_trans (Nat.le_trans (Nat.le_trans (Nat.le_trans (Nat.le_trans E329.1 (Keep.of_wr W334).1) (Keep.of_wr W339).1) (Keep.of_wr W343).1) K348.1) K353.1) E361.1) K375.1)) sf377
  have sf395 : Safe Z [("java/lang/String", 7)] T392.vm T392.heap b329 := ch392.safe (Nat.lt_of_lt_of_le VR343.lt (Nat.le_trans (Nat.le_trans (Nat.le_trans K348.1 K353.1) E361.1) K375.1)) sf378
  have sf396 : Safe Z [("java/lang/String", 7)] T392.vm T392.heap b361 := ch392.safe c380.lt sf379
  have hrl : ((([rv_303, rv_304, rv_305] : List Int32).take pl) ++ [(123 : Int32)] ++ (([n0_, n1_, n2_] : List Int32).take nl) ++ [(125 : Int32)]).length = pl + nl + 2 := own_rl rfl rfl hb_pl hb_nl.2
  have hrm : ∀ c ∈ ((([rv_303, rv_304, rv_305] : List Int32).take pl) ++ [(123 : Int32)] ++ (([n0_, n1_, n2_] : List Int32).take nl) ++ [(125 : Int32)]), ¬ c < 0 ∧ ¬ (255 : Int32) < c := own_rm (fun c hc => (hP3 c (List.mem_of_mem_take hc)).1.2) (fun c hc => (hN3 c (List.mem_of_mem_take hc)).2)
  have hcr : StrChars.Road.CodA ((([rv_303, rv_304, rv_305] : List Int32).take pl) ++ [(123 : Int32)] ++ (([n0_, n1_, n2_] : List Int32).take nl) ++ [(125 : Int32)]) 0 (Int32.ofNat ((([rv_303, rv_304, rv_305] : List Int32).take pl) ++ [(123 : Int32)] ++ (([n0_, n1_, n2_] : List Int32).take nl) ++ [(125 : Int32)]).length) (own_bs ((([rv_303, rv_304, rv_305] : List Int32).take pl) ++ [(123 : Int32)] ++ (([n0_, n1_, n2_] : List Int32).take nl) ++ [(125 : Int32)])) := Or.inl ⟨rfl, rfl, rfl, fun c hc => (hrm c hc).2⟩
  have c398 : Old Z n0 T392.heap := (c381.keep K392 all0)
  obtain ⟨cq397, kq397, q397a, q397b, q397c⟩ := isOf hZ392 rfl f392_1
  obtain ⟨_, _, ⟨T397, L397, k397, n397⟩, -, X397, ⟨Lc397, hQ397, l397, y397, z397⟩, st397⟩ := X392.virtualBack hx (y := (⟨"java/lang/String", "length", "()I"⟩ : MethodName)) (z := (⟨"java/lang/String", "length", "()I"⟩ : MethodName)) hown392 (mvT hZ392 (hw _ (List.mem_of_getElem? (i := 231) rfl))) (mvT hZ392 (hw _ (List.mem_of_getElem? (i := 68) rfl))) (notFace_of_selects (args := #[]) (mvT hZ392 (hw _ (List.mem_of_getElem? (i := 70) rfl)))) (mvT hZ392 (hw _ (List.mem_of_getElem? (i := 70) rfl))) (mvT hZ392 (hw _ (List.mem_of_getElem? (i := 69) rfl))) (by decide) (StrChars.Road.lenW (W := 0) hZ392 (own_hw_lenW hw) (kI := 4) (hw _ (List.mem_of_getElem? (i := 9) rfl)) f392_1 f392_2 f392_3 f392_4 hcr (own_up _ hrm) (q0.ext c398.2) hCS (by omega) (by decide) (by decide)) q397a q397c (g := (mkF m 195 #[.val (.int i0), .val (.int i1), .val (.int (Int32.ofNat pl)), .val (.int rv_303), .val (.int rv_304), .val (.int rv_305), .val (.int (Int32.ofNat nl)), .val (.int n0_), .val (.int n1_), .val (.int n2_), .val (.ref b315), .val (.ref b329), .val (.ref xr_348), .val (.ref xr_353), .val (.ref b361), .val (.ref xr_392), .val (.int (Int32.ofNat (pl + nl + 2)))] [(.ref xr_392)])) rfl (by rw [hml]; rfl) (Steps.refl _) (argsL := []) (rest := []) (lenOf pd_0 rfl) rfl (by show 2 * 0 + _ ≤ _; exact Nat.le_of_eq rfl) (hb hby at_195) (fun _ _ => ⟨rfl, rfl, (by decide : 23 + 0 ≤ _), (by decide : 119 + 0 ≤ _)⟩)
  dsimp only [Pt.U, Pt.locs, Pt.cells, Pt.slots] at X397 l397 y397 z397 st397 hQ397
  subst l397 y397 z397
  obtain ⟨rfl, rfl, e397⟩ := hQ397
  have N397 := Fr.app N392 (Fr.nil n0)
  have ne399 : b315 ≠ b329 := Nat.ne_of_lt (Nat.lt_of_lt_of_le VR326.lt (Nat.le_of_eq g329.symm))
  have ne400 : b315 ≠ b361 := Nat.ne_of_lt (Nat.lt_of_lt_of_le (Nat.lt_of_lt_of_le VR326.lt (Nat.le_trans (Nat.le_trans (Nat.le_trans (Nat.le_trans (Nat.le_trans E329.1 (Keep.of_wr W334).1) (Keep.of_wr W339).1) (Keep.of_wr W343).1) K348.1) K353.1)) (Nat.le_of_eq g361.symm))
  have c401 : Arv Z T392.heap b315 ky315 .char (3 : Int32) [(.int rv_303), (.int rv_304), (.int rv_305)] (.int (0 : Int32)) := (((((((((VR326.ext E329).other W334 ne399).other W339 ne399).other W343 ne399).keep K348 nin0).keep K353 nin0).ext E361).keep K375 (ninS ne400 nin0)).keep K392 nin0)
  have ne402 : b329 ≠ b361 := Nat.ne_of_lt (Nat.lt_of_lt_of_le (Nat.lt_of_lt_of_le VR343.lt (Nat.le_trans K348.1 K353.1)) (Nat.le_of_eq g361.symm))
  have c403 : Arv Z T392.heap b329 ky329 .char (3 : Int32) [(.int n0_), (.int n1_), (.int n2_)] (.int (0 : Int32)) := (((((VR343.keep K348 nin0).keep K353 nin0).ext E361).keep K375 (ninS ne402 nin0)).keep K392 nin0)
  obtain ⟨_, _, ⟨T404, L404, k404, n404⟩, -, X404, ⟨Lc404, hQ404, l404, y404, z404⟩, st404⟩ := Jvm.LawKit.callS X397 hx (y := (⟨"com/example/holdfast/holdfast/redis/LockKeysLockKeyPinLaw", "at", "(Ljava/lang/String;IIII[C[C)Z"⟩ : MethodName)) hown392 (mvT hZ392 (hw _ (List.mem_of_getElem? (i := 232) rfl))) (mvT hZ392 (hw _ (List.mem_of_getElem? (i := 233) rfl))) (mvT hZ392 (hw _ (List.mem_of_getElem? (i := 2) rfl))) (mvT hZ392 (hw _ (List.mem_of_getElem? (i := 234) rfl))) (by decide) (backOf (W := 0) (rm_at l Z a0 hw [] xr_392 (pl + nl + 2) tt_392 kt_392 G fm 0 pl nl b315 b329 ky315 ky329 ([rv_303, rv_304, rv_305] : List Int32) ([n0_, n1_, n2_] : List Int32) T392.heap n0 (Nat.le_trans Z0 (Nat.le_trans (Nat.le_trans (Nat.le_trans (Nat.le_trans (Nat.le_trans (Nat.le_trans (Nat.le_trans (Nat.le_trans (Nat.le_trans (Nat.le_trans (Nat.le_trans (Nat.le_trans E315.1 (Keep.of_wr W319).1) (Keep.of_wr W323).1) (Keep.of_wr W326).1) E329.1) (Keep.of_wr W334).1) (Keep.of_wr W339).1) (Keep.of_wr W343).1) K348.1) K353.1) E361.1) K375.1) K392.1)) q0 hCS q2 hFM c398 f392_1 f392_2 f392_3 f392_4 (hcr) (own_up _ hrm) (rfl) (by decide) c401 c403 (⟨rfl, fun c hc => (hP3 c hc).1⟩) (⟨rfl, hN3⟩) (hb_pl) (hb_nl.2)) hZ392 (hw _ (List.mem_of_getElem? (i := 234) rfl)) (hw _ (List.mem_of_getElem? (i := 2) rfl)) (by decide) (by decide)) (g := (mkF m 217 #[.val (.int i0), .val (.int i1), .val (.int (Int32.ofNat pl)), .val (.int rv_303), .val (.int rv_304), .val (.int rv_305), .val (.int (Int32.ofNat nl)), .val (.int n0_), .val (.int n1_), .val (.int n2_), .val (.ref b315), .val (.ref b329), .val (.ref xr_348), .val (.ref xr_353), .val (.ref b361), .val (.ref xr_392), .val (.int (Int32.ofNat (pl + nl + 2)))] [(.ref b329), (.ref b315), (.int (Int32.ofNat nl)), (.int (Int32.ofNat pl)), (.int (Int32.ofNat (pl + nl + 2))), (.int (0 : Int32)), (.ref xr_392)])) rfl (by rw [hml]; rfl) (argsL := [(.ref xr_392), (.int (0 : Int32)), (.int (Int32.ofNat (pl + nl + 2))), (.int (Int32.ofNat pl)), (.int (Int32.ofNat nl)), (.ref b315), (.ref b329)]) (rest := []) (lenOf pd_30 rfl) rfl (by show 2 * 0 + _ ≤ _; exact Nat.le_of_eq rfl) (hb hby at_217) (fun _ _ => ⟨rfl, e397, (by decide : 23 + 0 ≤ _), (by decide : 119 + 0 ≤ _)⟩)
  dsimp only [Pt.U, Pt.locs, Pt.cells, Pt.slots] at X404 l404 y404 z404 st404 hQ404
  subst l404 y404 z404
  obtain ⟨rfl, Nq404, e404⟩ := hQ404
  have N404 := Fr.app N397 Nq404
  obtain ⟨_, _, ⟨T405, L405, k405, n405⟩, -, X405, ⟨Lc405, hQ405, l405, y405, z405⟩, st405⟩ := Jvm.LawKit.callS X404 hx (y := (⟨"com/example/holdfast/holdfast/redis/LockKeysLockKeyPinLaw", "at", "(Ljava/lang/String;IIII[C[C)Z"⟩ : MethodName)) hown392 (mvT hZ392 (hw _ (List.mem_of_getElem? (i := 232) rfl))) (mvT hZ392 (hw _ (List.mem_of_getElem? (i := 233) rfl))) (mvT hZ392 (hw _ (List.mem_of_getElem? (i := 2) rfl))) (mvT hZ392 (hw _ (List.mem_of_getElem? (i := 234) rfl))) (by decide) (backOf (W := 0) (rm_at l Z a0 hw [] xr_392 (pl + nl + 2) tt_392 kt_392 G fm 1 pl nl b315 b329 ky315 ky329 ([rv_303, rv_304, rv_305] : List Int32) ([n0_, n1_, n2_] : List Int32) T392.heap n0 (Nat.le_trans Z0 (Nat.le_trans (Nat.le_trans (Nat.le_trans (Nat.le_trans (Nat.le_trans (Nat.le_trans (Nat.le_trans (Nat.le_trans (Nat.le_trans (Nat.le_trans (Nat.le_trans (Nat.le_trans E315.1 (Keep.of_wr W319).1) (Keep.of_wr W323).1) (Keep.of_wr W326).1) E329.1) (Keep.of_wr W334).1) (Keep.of_wr W339).1) (Keep.of_wr W343).1) K348.1) K353.1) E361.1) K375.1) K392.1)) q0 hCS q2 hFM c398 f392_1 f392_2 f392_3 f392_4 (hcr) (own_up _ hrm) (rfl) (by decide) c401 c403 (⟨rfl, fun c hc => (hP3 c hc).1⟩) (⟨rfl, hN3⟩) (hb_pl) (hb_nl.2)) hZ392 (hw _ (List.mem_of_getElem? (i := 234) rfl)) (hw _ (List.mem_of_getElem? (i := 2) rfl)) (by decide) (by decide)) (g := (mkF m 235 #[.val (.int i0), .val (.int i1), .val (.int (Int32.ofNat pl)), .val (.int rv_303), .val (.int rv_304), .val (.int rv_305), .val (.int (Int32.ofNat nl)), .val (.int n0_), .val (.int n1_), .val (.int n2_), .val (.ref b315), .val (.ref b329), .val (.ref xr_348), .val (.ref xr_353), .val (.ref b361), .val (.ref xr_392), .val (.int (Int32.ofNat (pl + nl + 2)))] [(.ref b329), (.ref b315), (.int (Int32.ofNat nl)), (.int (Int32.ofNat pl)), (.int (Int32.ofNat (pl + nl + 2))), (.int (1 : Int32)), (.ref xr_392)])) rfl (by rw [hml]; rfl) (argsL := [(.ref xr_392), (.int (1 : Int32)), (.int (Int32.ofNat (pl + nl + 2))), (.int (Int32.ofNat pl)), (.int (Int32.ofNat nl)), (.ref b315), (.ref b329)]) (rest := []) (lenOf pd_30 rfl) rfl (by show 2 * 0 + _ ≤ _; exact Nat.le_of_eq rfl) (hb hby at_235) (fun _ _ => ⟨rfl, e404, (by decide : 23 + 0 ≤ _), (by decide : 119 + 0 ≤ _)⟩)
  dsimp only [Pt.U, Pt.locs, Pt.cells, Pt.slots] at X405 l405 y405 z405 st405 hQ405
  subst l405 y405 z405
  obtain ⟨rfl, Nq405, e405⟩ := hQ405
  have N405 := Fr.app N404 Nq405
  obtain ⟨_, _, ⟨T406, L406, k406, n406⟩, -, X406, ⟨Lc406, hQ406, l406, y406, z406⟩, st406⟩ := Jvm.LawKit.callS X405 hx (y := (⟨"com/example/holdfast/holdfast/redis/LockKeysLockKeyPinLaw", "at", "(Ljava/lang/String;IIII[C[C)Z"⟩ : MethodName)) hown392 (mvT hZ392 (hw _ (List.mem_of_getElem? (i := 232) rfl))) (mvT hZ392 (hw _ (List.mem_of_getElem? (i := 233) rfl))) (mvT hZ392 (hw _ (List.mem_of_getElem? (i := 2) rfl))) (mvT hZ392 (hw _ (List.mem_of_getElem? (i := 234) rfl))) (by decide) (backOf (W := 0) (rm_at l Z a0 hw [] xr_392 (pl + nl + 2) tt_392 kt_392 G fm 2 pl nl b315 b329 ky315 ky329 ([rv_303, rv_304, rv_305] : List Int32) ([n0_, n1_, n2_] : List Int32) T392.heap n0 (Nat.le_trans Z0 (Nat.le_trans (Nat.le_trans (Nat.le_trans (Nat.le_trans (Nat.le_trans (Nat.le_trans (Nat.le_trans (Nat.le_trans (Nat.le_trans (Nat.le_trans (Nat.le_trans (Nat.le_trans E315.1 (Keep.of_wr W319).1) (Keep.of_wr W323).1) (Keep.of_wr W326).1) E329.1) (Keep.of_wr W334).1) (Keep.of_wr W339).1) (Keep.of_wr W343).1) K348.1) K353.1) E361.1) K375.1) K392.1)) q0 hCS q2 hFM c398 f392_1 f392_2 f392_3 f392_4 (hcr) (own_up _ hrm) (rfl) (by decide) c401 c403 (⟨rfl, fun c hc => (hP3 c hc).1⟩) (⟨rfl, hN3⟩) (hb_pl) (hb_nl.2)) hZ392 (hw _ (List.mem_of_getElem? (i := 234) rfl)) (hw _ (List.mem_of_getElem? (i := 2) rfl)) (by decide) (by decide)) (g := (mkF m 253 #[.val (.int i0), .val (.int i1), .val (.int (Int32.ofNat pl)), .val (.int rv_303), .val (.int rv_304), .val (.int rv_305), .val (.int (Int32.ofNat nl)), .val (.int n0_), .val (.int n1_), .val (.int n2_), .val (.ref b315), .val (.ref b329), .val (.ref xr_348), .val (.ref xr_353), .val (.ref b361), .val (.ref xr_392), .val (.int (Int32.ofNat (pl + nl + 2)))] [(.ref b329), (.ref b315), (.int (Int32.ofNat nl)), (.int (Int32.ofNat pl)), (.int (Int32.ofNat (pl + nl + 2))), (.int (2 : Int32)), (.ref xr_392)])) rfl (by rw [hml]; rfl) (argsL := [(.ref xr_392), (.int (2 : Int32)), (.int (Int32.ofNat (pl + nl + 2))), (.int (Int32.ofNat pl)), (.int (Int32.ofNat nl)), (.ref b315), (.ref b329)]) (rest := []) (lenOf pd_30 rfl) rfl (by show 2 * 0 + _ ≤ _; exact Nat.le_of_eq rfl) (hb hby at_253) (fun _ _ => ⟨rfl, e405, (by decide : 23 + 0 ≤ _), (by decide : 119 + 0 ≤ _)⟩)
  dsimp only [Pt.U, Pt.locs, Pt.cells, Pt.slots] at X406 l406 y406 z406 st406 hQ406
  subst l406 y406 z406
  obtain ⟨rfl, Nq406, e406⟩ := hQ406
  have N406 := Fr.app N405 Nq406
  obtain ⟨_, _, ⟨T407, L407, k407, n407⟩, -, X407, ⟨Lc407, hQ407, l407, y407, z407⟩, st407⟩ := Jvm.LawKit.callS X406 hx (y := (⟨"com/example/holdfast/holdfast/redis/LockKeysLockKeyPinLaw", "at", "(Ljava/lang/String;IIII[C[C)Z"⟩ : MethodName)) hown392 (mvT hZ392 (hw _ (List.mem_of_getElem? (i := 232) rfl))) (mvT hZ392 (hw _ (List.mem_of_getElem? (i := 233) rfl))) (mvT hZ392 (hw _ (List.mem_of_getElem? (i := 2) rfl))) (mvT hZ392 (hw _ (List.mem_of_getElem? (i := 234) rfl))) (by decide) (backOf (W := 0) (rm_at l Z a0 hw [] xr_392 (pl + nl + 2) tt_392 kt_392 G fm 3 pl nl b315 b329 ky315 ky329 ([rv_303, rv_304, rv_305] : List Int32) ([n0_, n1_, n2_] : List Int32) T392.heap n0 (Nat.le_trans Z0 (Nat.le_trans (Nat.le_trans (Nat.le_trans (Nat.le_trans (Nat.le_trans (Nat.le_trans (Nat.le_trans (Nat.le_trans (Nat.le_trans (Nat.le_trans (Nat.le_trans (Nat.le_trans E315.1 (Keep.of_wr W319).1) (Keep.of_wr W323).1) (Keep.of_wr W326).1) E329.1) (Keep.of_wr W334).1) (Keep.of_wr W339).1) (Keep.of_wr W343).1) K348.1) K353.1) E361.1) K375.1) K392.1)) q0 hCS q2 hFM c398 f392_1 f392_2 f392_3 f392_4 (hcr) (own_up _ hrm) (rfl) (by decide) c401 c403 (⟨rfl, fun c hc => (hP3 c hc).1⟩) (⟨rfl, hN3⟩) (hb_pl) (hb_nl.2)) hZ392 (hw _ (List.mem_of_getElem? (i := 234) rfl)) (hw _ (List.mem_of_getElem? (i := 2) rfl)) (by decide) (by decide)) (g := (mkF m 271 #[.val (.int i0), .val (.int i1), .val (.int (Int32.ofNat pl)), .val (.int rv_303), .val (.int rv_304), .val (.int rv_305), .val (.int (Int32.ofNat nl)), .val (.int n0_), .val (.int n1_), .val (.int n2_), .val (.ref b315), .val (.ref b329), .val (.ref xr_348), .val (.ref xr_353), .val (.ref b361), .val (.ref xr_392), .val (.int (Int32.ofNat (pl + nl + 2)))] [(.ref b329), (.ref b315), (.int (Int32.ofNat nl)), (.int (Int32.ofNat pl)), (.int (Int32.ofNat (pl + nl + 2))), (.int (3 : Int32)), (.ref xr_392)])) rfl (by rw [hml]; rfl) (argsL := [(.ref xr_392), (.int (3 : Int32)), (.int (Int32.ofNat (pl + nl + 2))), (.int (Int32.ofNat pl)), (.int (Int32.ofNat nl)), (.ref b315), (.ref b329)]) (rest := []) (lenOf pd_30 rfl) rfl (by show 2 * 0 + _ ≤ _; exact Nat.le_of_eq rfl) (hb hby at_271) (fun _ _ => ⟨rfl, e406, (by decide : 23 + 0 ≤ _), (by decide : 119 + 0 ≤ _)⟩)
  dsimp only [Pt.U, Pt.locs, Pt.cells, Pt.slots] at X407 l407 y407 z407 st407 hQ407
  subst l407 y407 z407
  obtain ⟨rfl, Nq407, e407⟩ := hQ407
  have N407 := Fr.app N406 Nq407
  obtain ⟨_, _, ⟨T408, L408, k408, n408⟩, -, X408, ⟨Lc408, hQ408, l408, y408, z408⟩, st408⟩ := Jvm.LawKit.callS X407 hx (y := (⟨"com/example/holdfast/holdfast/redis/LockKeysLockKeyPinLaw", "at", "(Ljava/lang/String;IIII[C[C)Z"⟩ : MethodName)) hown392 (mvT hZ392 (hw _ (List.mem_of_getElem? (i := 232) rfl))) (mvT hZ392 (hw _ (List.mem_of_getElem? (i := 233) rfl))) (mvT hZ392 (hw _ (List.mem_of_getElem? (i := 2) rfl))) (mvT hZ392 (hw _ (List.mem_of_getElem? (i := 234) rfl))) (by decide) (backOf (W := 0) (rm_at l Z a0 hw [] xr_392 (pl + nl + 2) tt_392 kt_392 G fm 4 pl nl b315 b329 ky315 ky329 ([rv_303, rv_304, rv_305] : List Int32) ([n0_, n1_, n2_] : List Int32) T392.heap n0 (Nat.le_trans Z0 (Nat.le_trans (Nat.le_trans (Nat.le_trans (Nat.le_trans (Nat.le_trans (Nat.le_trans (Nat.le_trans (Nat.le_trans (Nat.le_trans (Nat.le_trans (Nat.le_trans (Nat.le_trans E315.1 (Keep.of_wr W319).1) (Keep.of_wr W323).1) (Keep.of_wr W326).1) E329.1) (Keep.of_wr W334).1) (Keep.of_wr W339).1) (Keep.of_wr W343).1) K348.1) K353.1) E361.1) K375.1) K392.1)) q0 hCS q2 hFM c398 f392_1 f392_2 f392_3 f392_4 (hcr) (own_up _ hrm) (rfl) (by decide) c401 c403 (⟨rfl, fun c hc => (hP3 c hc).1⟩) (⟨rfl, hN3⟩) (hb_pl) (hb_nl.2)) hZ392 (hw _ (List.mem_of_getElem? (i := 234) rfl)) (hw _ (List.mem_of_getElem? (i := 2) rfl)) (by decide) (by decide)) (g := (mkF m 289 #[.val (.int i0), .val (.int i1), .val (.int (Int32.ofNat pl)), .val (.int rv_303), .val (.int rv_304), .val (.int rv_305), .val (.int (Int32.ofNat nl)), .val (.int n0_), .val (.int n1_), .val (.int n2_), .val (.ref b315), .val (.ref b329), .val (.ref xr_348), .val (.ref xr_353), .val (.ref b361), .val (.ref xr_392), .val (.int (Int32.ofNat (pl + nl + 2)))] [(.ref b329), (.ref b315), (.int (Int32.ofNat nl)), (.int (Int32.ofNat pl)), (.int (Int32.ofNat (pl + nl + 2))), (.int (4 : Int32)), (.ref xr_392)])) rfl (by rw [hml]; rfl) (argsL := [(.ref xr_392), (.int (4 : Int32)), (.int (Int32.ofNat (pl + nl + 2))), (.int (Int32.ofNat pl)), (.int (Int32.ofNat nl)), (.ref b315), (.ref b329)]) (rest := []) (lenOf pd_30 rfl) rfl (by show 2 * 0 + _ ≤ _; exact Nat.le_of_eq rfl) (hb hby at_289) (fun _ _ => ⟨rfl, e407, (by decide : 23 + 0 ≤ _), (by decide : 119 + 0 ≤ _)⟩)
  dsimp only [Pt.U, Pt.locs, Pt.cells, Pt.slots] at X408 l408 y408 z408 st408 hQ408
  subst l408 y408 z408
  obtain ⟨rfl, Nq408, e408⟩ := hQ408
  have N408 := Fr.app N407 Nq408
  obtain ⟨_, _, ⟨T409, L409, k409, n409⟩, -, X409, ⟨Lc409, hQ409, l409, y409, z409⟩, st409⟩ := Jvm.LawKit.callS X408 hx (y := (⟨"com/example/holdfast/holdfast/redis/LockKeysLockKeyPinLaw", "at", "(Ljava/lang/String;IIII[C[C)Z"⟩ : MethodName)) hown392 (mvT hZ392 (hw _ (List.mem_of_getElem? (i := 232) rfl))) (mvT hZ392 (hw _ (List.mem_of_getElem? (i := 233) rfl))) (mvT hZ392 (hw _ (List.mem_of_getElem? (i := 2) rfl))) (mvT hZ392 (hw _ (List.mem_of_getElem? (i := 234) rfl))) (by decide) (backOf (W := 0) (rm_at l Z a0 hw [] xr_392 (pl + nl + 2) tt_392 kt_392 G fm 5 pl nl b315 b329 ky315 ky329 ([rv_303, rv_304, rv_305] : List Int32) ([n0_, n1_, n2_] : List Int32) T392.heap n0 (Nat.le_trans Z0 (Nat.le_trans (Nat.le_trans (Nat.le_trans (Nat.le_trans (Nat.le_trans (Nat.le_trans (Nat.le_trans (Nat.le_trans (Nat.le_trans (Nat.le_trans (Nat.le_trans (Nat.le_trans E315.1 (Keep.of_wr W319).1) (Keep.of_wr W323).1) (Keep.of_wr W326).1) E329.1) (Keep.of_wr W334).1) (Keep.of_wr W339).1) (Keep.of_wr W343).1) K348.1) K353.1) E361.1) K375.1) K392.1)) q0 hCS q2 hFM c398 f392_1 f392_2 f392_3 f392_4 (hcr) (own_up _ hrm) (rfl) (by decide) c401 c403 (⟨rfl, fun c hc => (hP3 c hc).1⟩) (⟨rfl, hN3⟩) (hb_pl) (hb_nl.2)) hZ392 (hw _ (List.mem_of_getElem? (i := 234) rfl)) (hw _ (List.mem_of_getElem? (i := 2) rfl)) (by decide) (by decide)) (g := (mkF m 307 #[.val (.int i0), .val (.int i1), .val (.int (Int32.ofNat pl)), .val (.int rv_303), .val (.int rv_304), .val (.int rv_305), .val (.int (Int32.ofNat nl)), .val (.int n0_), .val (.int n1_), .val (.int n2_), .val (.ref b315), .val (.ref b329), .val (.ref xr_348), .val (.ref xr_353), .val (.ref b361), .val (.ref xr_392), .val (.int (Int32.ofNat (pl + nl + 2)))] [(.ref b329), (.ref b315), (.int (Int32.ofNat nl)), (.int (Int32.ofNat pl)), (.int (Int32.ofNat (pl + nl + 2))), (.int (5 : Int32)), (.ref xr_392)])) rfl (by rw [hml]; rfl) (argsL := [(.ref xr_392), (.int (5 : Int32)), (.int (Int32.ofNat (pl + nl + 2))), (.int (Int32.ofNat pl)), (.int (Int32.ofNat nl)), (.ref b315), (.ref b329)]) (rest := []) (lenOf pd_30 rfl) rfl (by show 2 * 0 + _ ≤ _; exact Nat.le_of_eq rfl) (hb hby at_307) (fun _ _ => ⟨rfl, e408, (by decide : 23 + 0 ≤ _), (by decide : 119 + 0 ≤ _)⟩)
  dsimp only [Pt.U, Pt.locs, Pt.cells, Pt.slots] at X409 l409 y409 z409 st409 hQ409
  subst l409 y409 z409
  obtain ⟨rfl, Nq409, e409⟩ := hQ409
  have N409 := Fr.app N408 Nq409
  obtain ⟨_, _, ⟨T410, L410, k410, n410⟩, -, X410, ⟨Lc410, hQ410, l410, y410, z410⟩, st410⟩ := Jvm.LawKit.callS X409 hx (y := (⟨"com/example/holdfast/holdfast/redis/LockKeysLockKeyPinLaw", "at", "(Ljava/lang/String;IIII[C[C)Z"⟩ : MethodName)) hown392 (mvT hZ392 (hw _ (List.mem_of_getElem? (i := 232) rfl))) (mvT hZ392 (hw _ (List.mem_of_getElem? (i := 233) rfl))) (mvT hZ392 (hw _ (List.mem_of_getElem? (i := 2) rfl))) (mvT hZ392 (hw _ (List.mem_of_getElem? (i := 234) rfl))) (by decide) (backOf (W := 0) (rm_at l Z a0 hw [] xr_392 (pl + nl + 2) tt_392 kt_392 G fm 6 pl nl b315 b329 ky315 ky329 ([rv_303, rv_304, rv_305] : List Int32) ([n0_, n1_, n2_] : List Int32) T392.heap n0 (Nat.le_trans Z0 (Nat.le_trans (Nat.le_trans (Nat.le_trans (Nat.le_trans (Nat.le_trans (Nat.le_trans (Nat.le_trans (Nat.le_trans (Nat.le_trans (Nat.le_trans (Nat.le_trans (Nat.le_trans E315.1 (Keep.of_wr W319).1) (Keep.of_wr W323).1) (Keep.of_wr W326).1) E329.1) (Keep.of_wr W334).1) (Keep.of_wr W339).1) (Keep.of_wr W343).1) K348.1) K353.1) E361.1) K375.1) K392.1)) q0 hCS q2 hFM c398 f392_1 f392_2 f392_3 f392_4 (hcr) (own_up _ hrm) (rfl) (by decide) c401 c403 (⟨rfl, fun c hc => (hP3 c hc).1⟩) (⟨rfl, hN3⟩) (hb_pl) (hb_nl.2)) hZ392 (hw _ (List.mem_of_getElem? (i := 234) rfl)) (hw _ (List.mem_of_getElem? (i := 2) rfl)) (by decide) (by decide)) (g := (mkF m 326 #[.val (.int i0), .val (.int i1), .val (.int (Int32.ofNat pl)), .val (.int rv_303), .val (.int rv_304), .val (.int rv_305), .val (.int (Int32.ofNat nl)), .val (.int n0_), .val (.int n1_), .val (.int n2_), .val (.ref b315), .val (.ref b329), .val (.ref xr_348), .val (.ref xr_353), .val (.ref b361), .val (.ref xr_392), .val (.int (Int32.ofNat (pl + nl + 2)))] [(.ref b329), (.ref b315), (.int (Int32.ofNat nl)), (.int (Int32.ofNat pl)), (.int (Int32.ofNat (pl + nl + 2))), (.int (6 : Int32)), (.ref xr_392)])) rfl (by rw [hml]; rfl) (argsL := [(.ref xr_392), (.int (6 : Int32)), (.int (Int32.ofNat (pl + nl + 2))), (.int (Int32.ofNat pl)), (.int (Int32.ofNat nl)), (.ref b315), (.ref b329)]) (rest := []) (lenOf pd_30 rfl) rfl (by show 2 * 0 + _ ≤ _; exact Nat.le_of_eq rfl) (hb hby at_326) (fun _ _ => ⟨rfl, e409, (by decide : 23 + 0 ≤ _), (by decide : 119 + 0 ≤ _)⟩)
  dsimp only [Pt.U, Pt.locs, Pt.cells, Pt.slots] at X410 l410 y410 z410 st410 hQ410
  subst l410 y410 z410
  obtain ⟨rfl, Nq410, e410⟩ := hQ410
  have N410 := Fr.app N409 Nq410
  obtain ⟨_, _, ⟨T411, L411, k411, n411⟩, -, X411, ⟨Lc411, hQ411, l411, y411, z411⟩, st411⟩ := Jvm.LawKit.callS X410 hx (y := (⟨"com/example/holdfast/holdfast/redis/LockKeysLockKeyPinLaw", "at", "(Ljava/lang/String;IIII[C[C)Z"⟩ : MethodName)) hown392 (mvT hZ392 (hw _ (List.mem_of_getElem? (i := 232) rfl))) (mvT hZ392 (hw _ (List.mem_of_getElem? (i := 233) rfl))) (mvT hZ392 (hw _ (List.mem_of_getElem? (i := 2) rfl))) (mvT hZ392 (hw _ (List.mem_of_getElem? (i := 234) rfl))) (by decide) (backOf (W := 0) (rm_at l Z a0 hw [] xr_392 (pl + nl + 2) tt_392 kt_392 G fm 7 pl nl b315 b329 ky315 ky329 ([rv_303, rv_304, rv_305] : List Int32) ([n0_, n1_, n2_] : List Int32) T392.heap n0 (Nat.le_trans Z0 (Nat.le_trans (Nat.le_trans (Nat.le_trans (Nat.le_trans (Nat.le_trans (Nat.le_trans (Nat.le_trans (Nat.le_trans (Nat.le_trans (Nat.le_trans (Nat.le_trans (Nat.le_trans E315.1 (Keep.of_wr W319).1) (Keep.of_wr W323).1) (Keep.of_wr W326).1) E329.1) (Keep.of_wr W334).1) (Keep.of_wr W339).1) (Keep.of_wr W343).1) K348.1) K353.1) E361.1) K375.1) K392.1)) q0 hCS q2 hFM c398 f392_1 f392_2 f392_3 f392_4 (hcr) (own_up _ hrm) (rfl) (by decide) c401 c403 (⟨rfl, fun c hc => (hP3 c hc).1⟩) (⟨rfl, hN3⟩) (hb_pl) (hb_nl.2)) hZ392 (hw _ (List.mem_of_getElem? (i := 234) rfl)) (hw _ (List.mem_of_getElem? (i := 2) rfl)) (by decide) (by decide)) (g := (mkF m 345 #[.val (.int i0), .val (.int i1), .val (.int (Int32.ofNat pl)), .val (.int rv_303), .val (.int rv_304), .val (.int rv_305), .val (.int (Int32.ofNat nl)), .val (.int n0_), .val (.int n1_), .val (.int n2_), .val (.ref b315), .val (.ref b329), .val (.ref xr_348), .val (.ref xr_353), .val (.ref b361), .val (.ref xr_392), .val (.int (Int32.ofNat (pl + nl + 2)))] [(.ref b329), (.ref b315), (.int (Int32.ofNat nl)), (.int (Int32.ofNat pl)), (.int (Int32.ofNat (pl + nl + 2))), (.int (7 : Int32)), (.ref xr_392)])) rfl (by rw [hml]; rfl) (argsL := [(.ref xr_392), (.int (7 : Int32)), (.int (Int32.ofNat (pl + nl + 2))), (.int (Int32.ofNat pl)), (.int (Int32.ofNat nl)), (.ref b315), (.ref b329)]) (rest := []) (lenOf pd_30 rfl) rfl (by show 2 * 0 + _ ≤ _; exact Nat.le_of_eq rfl) (hb hby at_345) (fun _ _ => ⟨rfl, e410, (by decide : 23 + 0 ≤ _), (by decide : 119 + 0 ≤ _)⟩)
  dsimp only [Pt.U, Pt.locs, Pt.cells, Pt.slots] at X411 l411 y411 z411 st411 hQ411
  subst l411 y411 z411
  obtain ⟨rfl, Nq411, e411⟩ := hQ411
  have N411 := Fr.app N410 Nq411
  obtain ⟨fs, hr, hrun, hended, hEnd⟩ := X411.leaveW hS392 (by rw [e411]; exact (Nat.le_refl _)) (v := some (.int (1 : Int32))) (fun h => by rw [Bd.returns] at h; cases h)
  refine ⟨_, _, pre314 _ ?_, hrun, hended, _, _, rfl, ?_, hEnd.1, hEnd.2.1, hEnd.2.2.1, hEnd.2.2.2.mono (by decide) (by decide)⟩
  · refine XS.iconst X305.here hx rfl (hb hby at_95) ?_
    show Steps p.tables e below (T305.setTop (mkF m 96 #[.val (.int i0), .val (.int i1), .val (.int (Int32.ofNat pl)), .val (.int rv_303), .val (.int rv_304), .val (.int rv_305), .val (.int (Int32.ofNat nl)), .val (.int n0_), .val (.int n1_), .val (.int n2_), .unset, .unset, .unset, .unset, .unset, .unset, .unset] [(.int (3 : Int32))])) _
    refine st315 _ ?_
    show Steps p.tables e below (T315.setTop (mkF m 98 #[.val (.int i0), .val (.int i1), .val (.int (Int32.ofNat pl)), .val (.int rv_303), .val (.int rv_304), .val (.int rv_305), .val (.int (Int32.ofNat nl)), .val (.int n0_), .val (.int n1_), .val (.int n2_), .unset, .unset, .unset, .unset, .unset, .unset, .unset] [(.ref b315)])) _
    refine XS.dup X315.here hx rfl (hb hby at_98) rfl rfl ?_
    show Steps p.tables e below (T315.setTop (mkF m 99 #[.val (.int i0), .val (.int i1), .val (.int (Int32.ofNat pl)), .val (.int rv_303), .val (.int rv_304), .val (.int rv_305), .val (.int (Int32.ofNat nl)), .val (.int n0_), .val (.int n1_), .val (.int n2_), .unset, .unset, .unset, .unset, .unset, .unset, .unset] [(.ref b315), (.ref b315)])) _
    refine XS.iconst X315.here hx rfl (hb hby at_99) ?_
    show Steps p.tables e below (T315.setTop (mkF m 100 #[.val (.int i0), .val (.int i1), .val (.int (Int32.ofNat pl)), .val (.int rv_303), .val (.int rv_304), .val (.int rv_305), .val (.int (Int32.ofNat nl)), .val (.int n0_), .val (.int n1_), .val (.int n2_), .unset, .unset, .unset, .unset, .unset, .unset, .unset] [(.int (0 : Int32)), (.ref b315), (.ref b315)])) _
    refine XS.iloadN X315.here hx rfl (hb hby at_100) rfl ?_
    show Steps p.tables e below (T315.setTop (mkF m 101 #[.val (.int i0), .val (.int i1), .val (.int (Int32.ofNat pl)), .val (.int rv_303), .val (.int rv_304), .val (.int rv_305), .val (.int (Int32.ofNat nl)), .val (.int n0_), .val (.int n1_), .val (.int n2_), .unset, .unset, .unset, .unset, .unset, .unset, .unset] [(.int rv_303), (.int (0 : Int32)), (.ref b315), (.ref b315)])) _
    refine st319 _ ?_
    show Steps p.tables e below (T319.setTop (mkF m 102 #[.val (.int i0), .val (.int i1), .val (.int (Int32.ofNat pl)), .val (.int rv_303), .val (.int rv_304), .val (.int rv_305), .val (.int (Int32.ofNat nl)), .val (.int n0_), .val (.int n1_), .val (.int n2_), .unset, .unset, .unset, .unset, .unset, .unset, .unset] [(.ref b315)])) _
    refine XS.dup X319.here hx rfl (hb hby at_102) rfl rfl ?_
    show Steps p.tables e below (T319.setTop (mkF m 103 #[.val (.int i0), .val (.int i1), .val (.int (Int32.ofNat pl)), .val (.int rv_303), .val (.int rv_304), .val (.int rv_305), .val (.int (Int32.ofNat nl)), .val (.int n0_), .val (.int n1_), .val (.int n2_), .unset, .unset, .unset, .unset, .unset, .unset, .unset] [(.ref b315), (.ref b315)])) _
    refine XS.iconst X319.here hx rfl (hb hby at_103) ?_
    show Steps p.tables e below (T319.setTop (mkF m 104 #[.val (.int i0), .val (.int i1), .val (.int (Int32.ofNat pl)), .val (.int rv_303), .val (.int rv_304), .val (.int rv_305), .val (.int (Int32.ofNat nl)), .val (.int n0_), .val (.int n1_), .val (.int n2_), .unset, .unset, .unset, .unset, .unset, .unset, .unset] [(.int (1 : Int32)), (.ref b315), (.ref b315)])) _
    refine XS.iload X319.here hx rfl (hb hby at_104) rfl ?_
    show Steps p.tables e below (T319.setTop (mkF m 106 #[.val (.int i0), .val (.int i1), .val (.int (Int32.ofNat pl)), .val (.int rv_303), .val (.int rv_304), .val (.int rv_305), .val (.int (Int32.ofNat nl)), .val (.int n0_), .val (.int n1_), .val (.int n2_), .unset, .unset, .unset, .unset, .unset, .unset, .unset] [(.int rv_304), (.int (1 : Int32)), (.ref b315), (.ref b315)])) _
    refine st323 _ ?_
    show Steps p.tables e below (T323.setTop (mkF m 107 #[.val (.int i0), .val (.int i1), .val (.int (Int32.ofNat pl)), .val (.int rv_303), .val (.int rv_304), .val (.int rv_305), .val (.int (Int32.ofNat nl)), .val (.int n0_), .val (.int n1_), .val (.int n2_), .unset, .unset, .unset, .unset, .unset, .unset, .unset] [(.ref b315)])) _
    refine XS.dup X323.here hx rfl (hb hby at_107) rfl rfl ?_
    show Steps p.tables e below (T323.setTop (mkF m 108 #[.val (.int i0), .val (.int i1), .val (.int (Int32.ofNat pl)), .val (.int rv_303), .val (.int rv_304), .val (.int rv_305), .val (.int (Int32.ofNat nl)), .val (.int n0_), .val (.int n1_), .val (.int n2_), .unset, .unset, .unset, .unset, .unset, .unset, .unset] [(.ref b315), (.ref b315)])) _
    refine XS.iconst X323.here hx rfl (hb hby at_108) ?_
    show Steps p.tables e below (T323.setTop (mkF m 109 #[.val (.int i0), .val (.int i1), .val (.int (Int32.ofNat pl)), .val (.int rv_303), .val (.int rv_304), .val (.int rv_305), .val (.int (Int32.ofNat nl)), .val (.int n0_), .val (.int n1_), .val (.int n2_), .unset, .unset, .unset, .unset, .unset, .unset, .unset] [(.int (2 : Int32)), (.ref b315), (.ref b315)])) _
    refine XS.iload X323.here hx rfl (hb hby at_109) rfl ?_
    show Steps p.tables e below (T323.setTop (mkF m 111 #[.val (.int i0), .val (.int i1), .val (.int (Int32.ofNat pl)), .val (.int rv_303), .val (.int rv_304), .val (.int rv_305), .val (.int (Int32.ofNat nl)), .val (.int n0_), .val (.int n1_), .val (.int n2_), .unset, .unset, .unset, .unset, .unset, .unset, .unset] [(.int rv_305), (.int (2 : Int32)), (.ref b315), (.ref b315)])) _
    refine st326 _ ?_
    show Steps p.tables e below (T326.setTop (mkF m 112 #[.val (.int i0), .val (.int i1), .val (.int (Int32.ofNat pl)), .val (.int rv_303), .val (.int rv_304), .val (.int rv_305), .val (.int (Int32.ofNat nl)), .val (.int n0_), .val (.int n1_), .val (.int n2_), .unset, .unset, .unset, .unset, .unset, .unset, .unset] [(.ref b315)])) _
    refine XS.astore X326.here hx rfl (hb hby at_112) rfl rfl (l' := #[.val (.int i0), .val (.int i1), .val (.int (Int32.ofNat pl)), .val (.int rv_303), .val (.int rv_304), .val (.int rv_305), .val (.int (Int32.ofNat nl)), .val (.int n0_), .val (.int n1_), .val (.int n2_), .val (.ref b315), .unset, .unset, .unset, .unset, .unset, .unset]) rfl ?_
    show Steps p.tables e below (T326.setTop (mkF m 114 #[.val (.int i0), .val (.int i1), .val (.int (Int32.ofNat pl)), .val (.int rv_303), .val (.int rv_304), .val (.int rv_305), .val (.int (Int32.ofNat nl)), .val (.int n0_), .val (.int n1_), .val (.int n2_), .val (.ref b315), .unset, .unset, .unset, .unset, .unset, .unset] [])) _
    refine XS.iconst X326.here hx rfl (hb hby at_114) ?_
    show Steps p.tables e below (T326.setTop (mkF m 115 #[.val (.int i0), .val (.int i1), .val (.int (Int32.ofNat pl)), .val (.int rv_303), .val (.int rv_304), .val (.int rv_305), .val (.int (Int32.ofNat nl)), .val (.int n0_), .val (.int n1_), .val (.int n2_), .val (.ref b315), .unset, .unset, .unset, .unset, .unset, .unset] [(.int (3 : Int32))])) _
    refine st329 _ ?_
    show Steps p.tables e below (T329.setTop (mkF m 117 #[.val (.int i0), .val (.int i1), .val (.int (Int32.ofNat pl)), .val (.int rv_303), .val (.int rv_304), .val (.int rv_305), .val (.int (Int32.ofNat nl)), .val (.int n0_), .val (.int n1_), .val (.int n2_), .val (.ref b315), .unset, .unset, .unset, .unset, .unset, .unset] [(.ref b329)])) _
    refine XS.dup X329.here hx rfl (hb hby at_117) rfl rfl ?_
    show Steps p.tables e below (T329.setTop (mkF m 118 #[.val (.int i0), .val (.int i1), .val (.int (Int32.ofNat pl)), .val (.int rv_303), .val (.int rv_304), .val (.int rv_305), .val (.int (Int32.ofNat nl)), .val (.int n0_), .val (.int n1_), .val (.int n2_), .val (.ref b315), .unset, .unset, .unset, .unset, .unset, .unset] [(.ref b329), (.ref b329)])) _
    refine XS.iconst X329.here hx rfl (hb hby at_118) ?_
    show Steps p.tables e below (T329.setTop (mkF m 119 #[.val (.int i0), .val (.int i1), .val (.int (Int32.ofNat pl)), .val (.int rv_303), .val (.int rv_304), .val (.int rv_305), .val (.int (Int32.ofNat nl)), .val (.int n0_), .val (.int n1_), .val (.int n2_), .val (.ref b315), .unset, .unset, .unset, .unset, .unset, .unset] [(.int (0 : Int32)), (.ref b329), (.ref b329)])) _
    refine XS.iload X329.here hx rfl (hb hby at_119) rfl ?_
    show Steps p.tables e below (T329.setTop (mkF m 121 #[.val (.int i0), .val (.int i1), .val (.int (Int32.ofNat pl)), .val (.int rv_303), .val (.int rv_304), .val (.int rv_305), .val (.int (Int32.ofNat nl)), .val (.int n0_), .val (.int n1_), .val (.int n2_), .val (.ref b315), .unset, .unset, .unset, .unset, .unset, .unset] [(.int n0_), (.int (0 : Int32)), (.ref b329), (.ref b329)])) _
    refine st334 _ ?_
    show Steps p.tables e below (T334.setTop (mkF m 122 #[.val (.int i0), .val (.int i1), .val (.int (Int32.ofNat pl)), .val (.int rv_303), .val (.int rv_304), .val (.int rv_305), .val (.int (Int32.ofNat nl)), .val (.int n0_), .val (.int n1_), .val (.int n2_), .val (.ref b315), .unset, .unset, .unset, .unset, .unset, .unset] [(.ref b329)])) _
    refine XS.dup X334.here hx rfl (hb hby at_122) rfl rfl ?_
    show Steps p.tables e below (T334.setTop (mkF m 123 #[.val (.int i0), .val (.int i1), .val (.int (Int32.ofNat pl)), .val (.int rv_303), .val (.int rv_304), .val (.int rv_305), .val (.int (Int32.ofNat nl)), .val (.int n0_), .val (.int n1_), .val (.int n2_), .val (.ref b315), .unset, .unset, .unset, .unset, .unset, .unset] [(.ref b329), (.ref b329)])) _
    refine XS.iconst X334.here hx rfl (hb hby at_123) ?_
    show Steps p.tables e below (T334.setTop (mkF m 124 #[.val (.int i0), .val (.int i1), .val (.int (Int32.ofNat pl)), .val (.int rv_303), .val (.int rv_304), .val (.int rv_305), .val (.int (Int32.ofNat nl)), .val (.int n0_), .val (.int n1_), .val (.int n2_), .val (.ref b315), .unset, .unset, .unset, .unset, .unset, .unset] [(.int (1 : Int32)), (.ref b329), (.ref b329)])) _
    refine XS.iload X334.here hx rfl (hb hby at_124) rfl ?_
    show Steps p.tables e below (T334.setTop (mkF m 126 #[.val (.int i0), .val (.int i1), .val (.int (Int32.ofNat pl)), .val (.int rv_303), .val (.int rv_304), .val (.int rv_305), .val (.int (Int32.ofNat nl)), .val (.int n0_), .val (.int n1_), .val (.int n2_), .val (.ref b315), .unset, .unset, .unset, .unset, .unset, .unset] [(.int n1_), (.int (1 : Int32)), (.ref b329), (.ref b329)])) _
    refine st339 _ ?_
    show Steps p.tables e below (T339.setTop (mkF m 127 #[.val (.int i0), .val (.int i1), .val (.int (Int32.ofNat pl)), .val (.int rv_303), .val (.int rv_304), .val (.int rv_305), .val (.int (Int32.ofNat nl)), .val (.int n0_), .val (.int n1_), .val (.int n2_), .val (.ref b315), .unset, .unset, .unset, .unset, .unset, .unset] [(.ref b329)])) _
    refine XS.dup X339.here hx rfl (hb hby at_127) rfl rfl ?_
    show Steps p.tables e below (T339.setTop (mkF m 128 #[.val (.int i0), .val (.int i1), .val (.int (Int32.ofNat pl)), .val (.int rv_303), .val (.int rv_304), .val (.int rv_305), .val (.int (Int32.ofNat nl)), .val (.int n0_), .val (.int n1_), .val (.int n2_), .val (.ref b315), .unset, .unset, .unset, .unset, .unset, .unset] [(.ref b329), (.ref b329)])) _
    refine XS.iconst X339.here hx rfl (hb hby at_128) ?_
    show Steps p.tables e below (T339.setTop (mkF m 129 #[.val (.int i0), .val (.int i1), .val (.int (Int32.ofNat pl)), .val (.int rv_303), .val (.int rv_304), .val (.int rv_305), .val (.int (Int32.ofNat nl)), .val (.int n0_), .val (.int n1_), .val (.int n2_), .val (.ref b315), .unset, .unset, .unset, .unset, .unset, .unset] [(.int (2 : Int32)), (.ref b329), (.ref b329)])) _
    refine XS.iload X339.here hx rfl (hb hby at_129) rfl ?_
    show Steps p.tables e below (T339.setTop (mkF m 131 #[.val (.int i0), .val (.int i1), .val (.int (Int32.ofNat pl)), .val (.int rv_303), .val (.int rv_304), .val (.int rv_305), .val (.int (Int32.ofNat nl)), .val (.int n0_), .val (.int n1_), .val (.int n2_), .val (.ref b315), .unset, .unset, .unset, .unset, .unset, .unset] [(.int n2_), (.int (2 : Int32)), (.ref b329), (.ref b329)])) _
    refine st343 _ ?_
    show Steps p.tables e below (T343.setTop (mkF m 132 #[.val (.int i0), .val (.int i1), .val (.int (Int32.ofNat pl)), .val (.int rv_303), .val (.int rv_304), .val (.int rv_305), .val (.int (Int32.ofNat nl)), .val (.int n0_), .val (.int n1_), .val (.int n2_), .val (.ref b315), .unset, .unset, .unset, .unset, .unset, .unset] [(.ref b329)])) _
    refine XS.astore X343.here hx rfl (hb hby at_132) rfl rfl (l' := #[.val (.int i0), .val (.int i1), .val (.int (Int32.ofNat pl)), .val (.int rv_303), .val (.int rv_304), .val (.int rv_305), .val (.int (Int32.ofNat nl)), .val (.int n0_), .val (.int n1_), .val (.int n2_), .val (.ref b315), .val (.ref b329), .unset, .unset, .unset, .unset, .unset]) rfl ?_
    show Steps p.tables e below (T343.setTop (mkF m 134 #[.val (.int i0), .val (.int i1), .val (.int (Int32.ofNat pl)), .val (.int rv_303), .val (.int rv_304), .val (.int rv_305), .val (.int (Int32.ofNat nl)), .val (.int n0_), .val (.int n1_), .val (.int n2_), .val (.ref b315), .val (.ref b329), .unset, .unset, .unset, .unset, .unset] [])) _
    refine XS.iloadN X343.here hx rfl (hb hby at_134) rfl ?_
    show Steps p.tables e below (T343.setTop (mkF m 135 #[.val (.int i0), .val (.int i1), .val (.int (Int32.ofNat pl)), .val (.int rv_303), .val (.int rv_304), .val (.int rv_305), .val (.int (Int32.ofNat nl)), .val (.int n0_), .val (.int n1_), .val (.int n2_), .val (.ref b315), .val (.ref b329), .unset, .unset, .unset, .unset, .unset] [(.int (Int32.ofNat pl))])) _
    refine XS.iloadN X343.here hx rfl (hb hby at_135) rfl ?_
    show Steps p.tables e below (T343.setTop (mkF m 136 #[.val (.int i0), .val (.int i1), .val (.int (Int32.ofNat pl)), .val (.int rv_303), .val (.int rv_304), .val (.int rv_305), .val (.int (Int32.ofNat nl)), .val (.int n0_), .val (.int n1_), .val (.int n2_), .val (.ref b315), .val (.ref b329), .unset, .unset, .unset, .unset, .unset] [(.int rv_303), (.int (Int32.ofNat pl))])) _
    refine XS.iload X343.here hx rfl (hb hby at_136) rfl ?_
    show Steps p.tables e below (T343.setTop (mkF m 138 #[.val (.int i0), .val (.int i1), .val (.int (Int32.ofNat pl)), .val (.int rv_303), .val (.int rv_304), .val (.int rv_305), .val (.int (Int32.ofNat nl)), .val (.int n0_), .val (.int n1_), .val (.int n2_), .val (.ref b315), .val (.ref b329), .unset, .unset, .unset, .unset, .unset] [(.int rv_304), (.int rv_303), (.int (Int32.ofNat pl))])) _
    refine XS.iload X343.here hx rfl (hb hby at_138) rfl ?_
    show Steps p.tables e below (T343.setTop (mkF m 140 #[.val (.int i0), .val (.int i1), .val (.int (Int32.ofNat pl)), .val (.int rv_303), .val (.int rv_304), .val (.int rv_305), .val (.int (Int32.ofNat nl)), .val (.int n0_), .val (.int n1_), .val (.int n2_), .val (.ref b315), .val (.ref b329), .unset, .unset, .unset, .unset, .unset] [(.int rv_305), (.int rv_304), (.int rv_303), (.int (Int32.ofNat pl))])) _
    refine st348.trans ?_
    show Steps p.tables e below (T348.setTop (mkF m 143 #[.val (.int i0), .val (.int i1), .val (.int (Int32.ofNat pl)), .val (.int rv_303), .val (.int rv_304), .val (.int rv_305), .val (.int (Int32.ofNat nl)), .val (.int n0_), .val (.int n1_), .val (.int n2_), .val (.ref b315), .val (.ref b329), .unset, .unset, .unset, .unset, .unset] [(.ref xr_348)])) _
    refine XS.astore X348.here hx rfl (hb hby at_143) rfl rfl (l' := #[.val (.int i0), .val (.int i1), .val (.int (Int32.ofNat pl)), .val (.int rv_303), .val (.int rv_304), .val (.int rv_305), .val (.int (Int32.ofNat nl)), .val (.int n0_), .val (.int n1_), .val (.int n2_), .val (.ref b315), .val (.ref b329), .val (.ref xr_348), .unset, .unset, .unset, .unset]) rfl ?_
    show Steps p.tables e below (T348.setTop (mkF m 145 #[.val (.int i0), .val (.int i1), .val (.int (Int32.ofNat pl)), .val (.int rv_303), .val (.int rv_304), .val (.int rv_305), .val (.int (Int32.ofNat nl)), .val (.int n0_), .val (.int n1_), .val (.int n2_), .val (.ref b315), .val (.ref b329), .val (.ref xr_348), .unset, .unset, .unset, .unset] [])) _
    refine XS.iload X348.here hx rfl (hb hby at_145) rfl ?_
    show Steps p.tables e below (T348.setTop (mkF m 147 #[.val (.int i0), .val (.int i1), .val (.int (Int32.ofNat pl)), .val (.int rv_303), .val (.int rv_304), .val (.int rv_305), .val (.int (Int32.ofNat nl)), .val (.int n0_), .val (.int n1_), .val (.int n2_), .val (.ref b315), .val (.ref b329), .val (.ref xr_348), .unset, .unset, .unset, .unset] [(.int (Int32.ofNat nl))])) _
    refine XS.iload X348.here hx rfl (hb hby at_147) rfl ?_
    show Steps p.tables e below (T348.setTop (mkF m 149 #[.val (.int i0), .val (.int i1), .val (.int (Int32.ofNat pl)), .val (.int rv_303), .val (.int rv_304), .val (.int rv_305), .val (.int (Int32.ofNat nl)), .val (.int n0_), .val (.int n1_), .val (.int n2_), .val (.ref b315), .val (.ref b329), .val (.ref xr_348), .unset, .unset, .unset, .unset] [(.int n0_), (.int (Int32.ofNat nl))])) _
    refine XS.iload X348.here hx rfl (hb hby at_149) rfl ?_
    show Steps p.tables e below (T348.setTop (mkF m 151 #[.val (.int i0), .val (.int i1), .val (.int (Int32.ofNat pl)), .val (.int rv_303), .val (.int rv_304), .val (.int rv_305), .val (.int (Int32.ofNat nl)), .val (.int n0_), .val (.int n1_), .val (.int n2_), .val (.ref b315), .val (.ref b329), .val (.ref xr_348), .unset, .unset, .unset, .unset] [(.int n1_), (.int n0_), (.int (Int32.ofNat nl))])) _
    refine XS.iload X348.here hx rfl (hb hby at_151) rfl ?_
    show Steps p.tables e below (T348.setTop (mkF m 153 #[.val (.int i0), .val (.int i1), .val (.int (Int32.ofNat pl)), .val (.int rv_303), .val (.int rv_304), .val (.int rv_305), .val (.int (Int32.ofNat nl)), .val (.int n0_), .val (.int n1_), .val (.int n2_), .val (.ref b315), .val (.ref b329), .val (.ref xr_348), .unset, .unset, .unset, .unset] [(.int n2_), (.int n1_), (.int n0_), (.int (Int32.ofNat nl))])) _
    refine st353.trans ?_
    show Steps p.tables e below (T353.setTop (mkF m 156 #[.val (.int i0), .val (.int i1), .val (.int (Int32.ofNat pl)), .val (.int rv_303), .val (.int rv_304), .val (.int rv_305), .val (.int (Int32.ofNat nl)), .val (.int n0_), .val (.int n1_), .val (.int n2_), .val (.ref b315), .val (.ref b329), .val (.ref xr_348), .unset, .unset, .unset, .unset] [(.ref xr_353)])) _
    refine XS.astore X353.here hx rfl (hb hby at_156) rfl rfl (l' := #[.val (.int i0), .val (.int i1), .val (.int (Int32.ofNat pl)), .val (.int rv_303), .val (.int rv_304), .val (.int rv_305), .val (.int (Int32.ofNat nl)), .val (.int n0_), .val (.int n1_), .val (.int n2_), .val (.ref b315), .val (.ref b329), .val (.ref xr_348), .val (.ref xr_353), .unset, .unset, .unset]) rfl ?_
    show Steps p.tables e below (T353.setTop (mkF m 158 #[.val (.int i0), .val (.int i1), .val (.int (Int32.ofNat pl)), .val (.int rv_303), .val (.int rv_304), .val (.int rv_305), .val (.int (Int32.ofNat nl)), .val (.int n0_), .val (.int n1_), .val (.int n2_), .val (.ref b315), .val (.ref b329), .val (.ref xr_348), .val (.ref xr_353), .unset, .unset, .unset] [])) _
    refine st361 _ ?_
    show Steps p.tables e below (T361.setTop (mkF m 161 #[.val (.int i0), .val (.int i1), .val (.int (Int32.ofNat pl)), .val (.int rv_303), .val (.int rv_304), .val (.int rv_305), .val (.int (Int32.ofNat nl)), .val (.int n0_), .val (.int n1_), .val (.int n2_), .val (.ref b315), .val (.ref b329), .val (.ref xr_348), .val (.ref xr_353), .unset, .unset, .unset] [(.ref b361)])) _
    refine XS.dup X361.here hx rfl (hb hby at_161) rfl rfl ?_
    show Steps p.tables e below (T361.setTop (mkF m 162 #[.val (.int i0), .val (.int i1), .val (.int (Int32.ofNat pl)), .val (.int rv_303), .val (.int rv_304), .val (.int rv_305), .val (.int (Int32.ofNat nl)), .val (.int n0_), .val (.int n1_), .val (.int n2_), .val (.ref b315), .val (.ref b329), .val (.ref xr_348), .val (.ref xr_353), .unset, .unset, .unset] [(.ref b361), (.ref b361)])) _
    refine XS.aload X361.here hx rfl (hb hby at_162) rfl rfl ?_
    show Steps p.tables e below (T361.setTop (mkF m 164 #[.val (.int i0), .val (.int i1), .val (.int (Int32.ofNat pl)), .val (.int rv_303), .val (.int rv_304), .val (.int rv_305), .val (.int (Int32.ofNat nl)), .val (.int n0_), .val (.int n1_), .val (.int n2_), .val (.ref b315), .val (.ref b329), .val (.ref xr_348), .val (.ref xr_353), .unset, .unset, .unset] [(.ref xr_348), (.ref b361), (.ref b361)])) _
    refine st375.trans ?_
    show Steps p.tables e below (T375.setTop (mkF m 167 #[.val (.int i0), .val (.int i1), .val (.int (Int32.ofNat pl)), .val (.int rv_303), .val (.int rv_304), .val (.int rv_305), .val (.int (Int32.ofNat nl)), .val (.int n0_), .val (.int n1_), .val (.int n2_), .val (.ref b315), .val (.ref b329), .val (.ref xr_348), .val (.ref xr_353), .unset, .unset, .unset] [(.ref b361)])) _
    refine XS.astore X375.here hx rfl (hb hby at_167) rfl rfl (l' := #[.val (.int i0), .val (.int i1), .val (.int (Int32.ofNat pl)), .val (.int rv_303), .val (.int rv_304), .val (.int rv_305), .val (.int (Int32.ofNat nl)), .val (.int n0_), .val (.int n1_), .val (.int n2_), .val (.ref b315), .val (.ref b329), .val (.ref xr_348), .val (.ref xr_353), .val (.ref b361), .unset, .unset]) rfl ?_
    show Steps p.tables e below (T375.setTop (mkF m 169 #[.val (.int i0), .val (.int i1), .val (.int (Int32.ofNat pl)), .val (.int rv_303), .val (.int rv_304), .val (.int rv_305), .val (.int (Int32.ofNat nl)), .val (.int n0_), .val (.int n1_), .val (.int n2_), .val (.ref b315), .val (.ref b329), .val (.ref xr_348), .val (.ref xr_353), .val (.ref b361), .unset, .unset] [])) _
    refine XS.aload X375.here hx rfl (hb hby at_169) rfl rfl ?_
    show Steps p.tables e below (T375.setTop (mkF m 171 #[.val (.int i0), .val (.int i1), .val (.int (Int32.ofNat pl)), .val (.int rv_303), .val (.int rv_304), .val (.int rv_305), .val (.int (Int32.ofNat nl)), .val (.int n0_), .val (.int n1_), .val (.int n2_), .val (.ref b315), .val (.ref b329), .val (.ref xr_348), .val (.ref xr_353), .val (.ref b361), .unset, .unset] [(.ref b361)])) _
    refine XS.aload X375.here hx rfl (hb hby at_171) rfl rfl ?_
    show Steps p.tables e below (T375.setTop (mkF m 173 #[.val (.int i0), .val (.int i1), .val (.int (Int32.ofNat pl)), .val (.int rv_303), .val (.int rv_304), .val (.int rv_305), .val (.int (Int32.ofNat nl)), .val (.int n0_), .val (.int n1_), .val (.int n2_), .val (.ref b315), .val (.ref b329), .val (.ref xr_348), .val (.ref xr_353), .val (.ref b361), .unset, .unset] [(.ref xr_353), (.ref b361)])) _
    refine st392.trans ?_
    show Steps p.tables e below (T392.setTop (mkF m 176 #[.val (.int i0), .val (.int i1), .val (.int (Int32.ofNat pl)), .val (.int rv_303), .val (.int rv_304), .val (.int rv_305), .val (.int (Int32.ofNat nl)), .val (.int n0_), .val (.int n1_), .val (.int n2_), .val (.ref b315), .val (.ref b329), .val (.ref xr_348), .val (.ref xr_353), .val (.ref b361), .unset, .unset] [(.ref xr_392)])) _
    refine XS.astore X392.here hx rfl (hb hby at_176) rfl rfl (l' := #[.val (.int i0), .val (.int i1), .val (.int (Int32.ofNat pl)), .val (.int rv_303), .val (.int rv_304), .val (.int rv_305), .val (.int (Int32.ofNat nl)), .val (.int n0_), .val (.int n1_), .val (.int n2_), .val (.ref b315), .val (.ref b329), .val (.ref xr_348), .val (.ref xr_353), .val (.ref b361), .val (.ref xr_392), .unset]) rfl ?_
    show Steps p.tables e below (T392.setTop (mkF m 178 #[.val (.int i0), .val (.int i1), .val (.int (Int32.ofNat pl)), .val (.int rv_303), .val (.int rv_304), .val (.int rv_305), .val (.int (Int32.ofNat nl)), .val (.int n0_), .val (.int n1_), .val (.int n2_), .val (.ref b315), .val (.ref b329), .val (.ref xr_348), .val (.ref xr_353), .val (.ref b361), .val (.ref xr_392), .unset] [])) _
    refine XS.aload X392.here hx rfl (hb hby at_178) rfl rfl ?_
    show Steps p.tables e below (T392.setTop (mkF m 180 #[.val (.int i0), .val (.int i1), .val (.int (Int32.ofNat pl)), .val (.int rv_303), .val (.int rv_304), .val (.int rv_305), .val (.int (Int32.ofNat nl)), .val (.int n0_), .val (.int n1_), .val (.int n2_), .val (.ref b315), .val (.ref b329), .val (.ref xr_348), .val (.ref xr_353), .val (.ref b361), .val (.ref xr_392), .unset] [(.ref xr_392)])) _
    refine XS.ifnonnullYes X392.here hx rfl (pc0 := 180) (pc' := 185) rfl (hb hby at_180) rfl (by decide) (by decide) ?_
    show Steps p.tables e below (T392.setTop (mkF m 185 #[.val (.int i0), .val (.int i1), .val (.int (Int32.ofNat pl)), .val (.int rv_303), .val (.int rv_304), .val (.int rv_305), .val (.int (Int32.ofNat nl)), .val (.int n0_), .val (.int n1_), .val (.int n2_), .val (.ref b315), .val (.ref b329), .val (.ref xr_348), .val (.ref xr_353), .val (.ref b361), .val (.ref xr_392), .unset] [])) _
    refine XS.iloadN X392.here hx rfl (hb hby at_185) rfl ?_
    show Steps p.tables e below (T392.setTop (mkF m 186 #[.val (.int i0), .val (.int i1), .val (.int (Int32.ofNat pl)), .val (.int rv_303), .val (.int rv_304), .val (.int rv_305), .val (.int (Int32.ofNat nl)), .val (.int n0_), .val (.int n1_), .val (.int n2_), .val (.ref b315), .val (.ref b329), .val (.ref xr_348), .val (.ref xr_353), .val (.ref b361), .val (.ref xr_392), .unset] [(.int (Int32.ofNat pl))])) _
    refine XS.iload X392.here hx rfl (hb hby at_186) rfl ?_
    show Steps p.tables e below (T392.setTop (mkF m 188 #[.val (.int i0), .val (.int i1), .val (.int (Int32.ofNat pl)), .val (.int rv_303), .val (.int rv_304), .val (.int rv_305), .val (.int (Int32.ofNat nl)), .val (.int n0_), .val (.int n1_), .val (.int n2_), .val (.ref b315), .val (.ref b329), .val (.ref xr_348), .val (.ref xr_353), .val (.ref b361), .val (.ref xr_392), .unset] [(.int (Int32.ofNat nl)), (.int (Int32.ofNat pl))])) _
    refine XS.iadd X392.here hx rfl (hb hby at_188) rfl ?_
    show Steps p.tables e below (T392.setTop (mkF m 189 #[.val (.int i0), .val (.int i1), .val (.int (Int32.ofNat pl)), .val (.int rv_303), .val (.int rv_304), .val (.int rv_305), .val (.int (Int32.ofNat nl)), .val (.int n0_), .val (.int n1_), .val (.int n2_), .val (.ref b315), .val (.ref b329), .val (.ref xr_348), .val (.ref xr_353), .val (.ref b361), .val (.ref xr_392), .unset] [(.int ((Int32.ofNat pl) + (Int32.ofNat nl)))])) _
    refine XS.iconst X392.here hx rfl (hb hby at_189) ?_
    show Steps p.tables e below (T392.setTop (mkF m 190 #[.val (.int i0), .val (.int i1), .val (.int (Int32.ofNat pl)), .val (.int rv_303), .val (.int rv_304), .val (.int rv_305), .val (.int (Int32.ofNat nl)), .val (.int n0_), .val (.int n1_), .val (.int n2_), .val (.ref b315), .val (.ref b329), .val (.ref xr_348), .val (.ref xr_353), .val (.ref b361), .val (.ref xr_392), .unset] [(.int (2 : Int32)), (.int ((Int32.ofNat pl) + (Int32.ofNat nl)))])) _
    refine XS.iadd X392.here hx rfl (hb hby at_190) rfl ?_
    show Steps p.tables e below (T392.setTop (mkF m 191 #[.val (.int i0), .val (.int i1), .val (.int (Int32.ofNat pl)), .val (.int rv_303), .val (.int rv_304), .val (.int rv_305), .val (.int (Int32.ofNat nl)), .val (.int n0_), .val (.int n1_), .val (.int n2_), .val (.ref b315), .val (.ref b329), .val (.ref xr_348), .val (.ref xr_353), .val (.ref b361), .val (.ref xr_392), .unset] [(.int (((Int32.ofNat pl) + (Int32.ofNat nl)) + (2 : Int32)))])) _
    rw [own_add3 pl nl]
    show Steps p.tables e below (T392.setTop (mkF m 191 #[.val (.int i0), .val (.int i1), .val (.int (Int32.ofNat pl)), .val (.int rv_303), .val (.int rv_304), .val (.int rv_305), .val (.int (Int32.ofNat nl)), .val (.int n0_), .val (.int n1_), .val (.int n2_), .val (.ref b315), .val (.ref b329), .val (.ref xr_348), .val (.ref xr_353), .val (.ref b361), .val (.ref xr_392), .unset] [(.int (Int32.ofNat (pl + nl + 2)))])) _
    refine XS.istore X392.here hx rfl (hb hby at_191) rfl (l' := #[.val (.int i0), .val (.int i1), .val (.int (Int32.ofNat pl)), .val (.int rv_303), .val (.int rv_304), .val (.int rv_305), .val (.int (Int32.ofNat nl)), .val (.int n0_), .val (.int n1_), .val (.int n2_), .val (.ref b315), .val (.ref b329), .val (.ref xr_348), .val (.ref xr_353), .val (.ref b361), .val (.ref xr_392), .val (.int (Int32.ofNat (pl + nl + 2)))]) rfl ?_
    show Steps p.tables e below (T392.setTop (mkF m 193 #[.val (.int i0), .val (.int i1), .val (.int (Int32.ofNat pl)), .val (.int rv_303), .val (.int rv_304), .val (.int rv_305), .val (.int (Int32.ofNat nl)), .val (.int n0_), .val (.int n1_), .val (.int n2_), .val (.ref b315), .val (.ref b329), .val (.ref xr_348), .val (.ref xr_353), .val (.ref b361), .val (.ref xr_392), .val (.int (Int32.ofNat (pl + nl + 2)))] [])) _
    refine XS.aload X392.here hx rfl (hb hby at_193) rfl rfl ?_
    show Steps p.tables e below (T392.setTop (mkF m 195 #[.val (.int i0), .val (.int i1), .val (.int (Int32.ofNat pl)), .val (.int rv_303), .val (.int rv_304), .val (.int rv_305), .val (.int (Int32.ofNat nl)), .val (.int n0_), .val (.int n1_), .val (.int n2_), .val (.ref b315), .val (.ref b329), .val (.ref xr_348), .val (.ref xr_353), .val (.ref b361), .val (.ref xr_392), .val (.int (Int32.ofNat (pl + nl + 2)))] [(.ref xr_392)])) _
    refine st397.trans ?_
    show Steps p.tables e below (T397.setTop (mkF m 198 #[.val (.int i0), .val (.int i1), .val (.int (Int32.ofNat pl)), .val (.int rv_303), .val (.int rv_304), .val (.int rv_305), .val (.int (Int32.ofNat nl)), .val (.int n0_), .val (.int n1_), .val (.int n2_), .val (.ref b315), .val (.ref b329), .val (.ref xr_348), .val (.ref xr_353), .val (.ref b361), .val (.ref xr_392), .val (.int (Int32.ofNat (pl + nl + 2)))] [(.int (Int32.ofNat (((([rv_303, rv_304, rv_305] : List Int32).take pl) ++ [(123 : Int32)] ++ (([n0_, n1_, n2_] : List Int32).take nl) ++ [(125 : Int32)])).length))])) _
    refine XS.iload X397.here hx rfl (hb hby at_198) rfl ?_
    show Steps p.tables e below (T397.setTop (mkF m 200 #[.val (.int i0), .val (.int i1), .val (.int (Int32.ofNat pl)), .val (.int rv_303), .val (.int rv_304), .val (.int rv_305), .val (.int (Int32.ofNat nl)), .val (.int n0_), .val (.int n1_), .val (.int n2_), .val (.ref b315), .val (.ref b329), .val (.ref xr_348), .val (.ref xr_353), .val (.ref b361), .val (.ref xr_392), .val (.int (Int32.ofNat (pl + nl + 2)))] [(.int (Int32.ofNat (pl + nl + 2))), (.int (Int32.ofNat (((([rv_303, rv_304, rv_305] : List Int32).take pl) ++ [(123 : Int32)] ++ (([n0_, n1_, n2_] : List Int32).take nl) ++ [(125 : Int32)])).length))])) _
    refine XS.icmpYes X397.here hx rfl (pc0 := 200) (pc' := 205) rfl (hb hby at_200) rfl (teq ((congrArg Int32.ofNat hrl) : (Int32.ofNat (((([rv_303, rv_304, rv_305] : List Int32).take pl) ++ [(123 : Int32)] ++ (([n0_, n1_, n2_] : List Int32).take nl) ++ [(125 : Int32)])).length) = (Int32.ofNat (pl + nl + 2)))).1 (by decide) (by decide) ?_
    show Steps p.tables e below (T397.setTop (mkF m 205 #[.val (.int i0), .val (.int i1), .val (.int (Int32.ofNat pl)), .val (.int rv_303), .val (.int rv_304), .val (.int rv_305), .val (.int (Int32.ofNat nl)), .val (.int n0_), .val (.int n1_), .val (.int n2_), .val (.ref b315), .val (.ref b329), .val (.ref xr_348), .val (.ref xr_353), .val (.ref b361), .val (.ref xr_392), .val (.int (Int32.ofNat (pl + nl + 2)))] [])) _
    refine XS.aload X397.here hx rfl (hb hby at_205) rfl rfl ?_
    show Steps p.tables e below (T397.setTop (mkF m 207 #[.val (.int i0), .val (.int i1), .val (.int (Int32.ofNat pl)), .val (.int rv_303), .val (.int rv_304), .val (.int rv_305), .val (.int (Int32.ofNat nl)), .val (.int n0_), .val (.int n1_), .val (.int n2_), .val (.ref b315), .val (.ref b329), .val (.ref xr_348), .val (.ref xr_353), .val (.ref b361), .val (.ref xr_392), .val (.int (Int32.ofNat (pl + nl + 2)))] [(.ref xr_392)])) _
    refine XS.iconst X397.here hx rfl (hb hby at_207) ?_
    show Steps p.tables e below (T397.setTop (mkF m 208 #[.val (.int i0), .val (.int i1), .val (.int (Int32.ofNat pl)), .val (.int rv_303), .val (.int rv_304), .val (.int rv_305), .val (.int (Int32.ofNat nl)), .val (.int n0_), .val (.int n1_), .val (.int n2_), .val (.ref b315), .val (.ref b329), .val (.ref xr_348), .val (.ref xr_353), .val (.ref b361), .val (.ref xr_392), .val (.int (Int32.ofNat (pl + nl + 2)))] [(.int (0 : Int32)), (.ref xr_392)])) _
    refine XS.iload X397.here hx rfl (hb hby at_208) rfl ?_
    show Steps p.tables e below (T397.setTop (mkF m 210 #[.val (.int i0), .val (.int i1), .val (.int (Int32.ofNat pl)), .val (.int rv_303), .val (.int rv_304), .val (.int rv_305), .val (.int (Int32.ofNat nl)), .val (.int n0_), .val (.int n1_), .val (.int n2_), .val (.ref b315), .val (.ref b329), .val (.ref xr_348), .val (.ref xr_353), .val (.ref b361), .val (.ref xr_392), .val (.int (Int32.ofNat (pl + nl + 2)))] [(.int (Int32.ofNat (pl + nl + 2))), (.int (0 : Int32)), (.ref xr_392)])) _
    refine XS.iloadN X397.here hx rfl (hb hby at_210) rfl ?_
    show Steps p.tables e below (T397.setTop (mkF m 211 #[.val (.int i0), .val (.int i1), .val (.int (Int32.ofNat pl)), .val (.int rv_303), .val (.int rv_304), .val (.int rv_305), .val (.int (Int32.ofNat nl)), .val (.int n0_), .val (.int n1_), .val (.int n2_), .val (.ref b315), .val (.ref b329), .val (.ref xr_348), .val (.ref xr_353), .val (.ref b361), .val (.ref xr_392), .val (.int (Int32.ofNat (pl + nl + 2)))] [(.int (Int32.ofNat pl)), (.int (Int32.ofNat (pl + nl + 2))), (.int (0 : Int32)), (.ref xr_392)])) _
    refine XS.iload X397.here hx rfl (hb hby at_211) rfl ?_
    show Steps p.tables e below (T397.setTop (mkF m 213 #[.val (.int i0), .val (.int i1), .val (.int (Int32.ofNat pl)), .val (.int rv_303), .val (.int rv_304), .val (.int rv_305), .val (.int (Int32.ofNat nl)), .val (.int n0_), .val (.int n1_), .val (.int n2_), .val (.ref b315), .val (.ref b329), .val (.ref xr_348), .val (.ref xr_353), .val (.ref b361), .val (.ref xr_392), .val (.int (Int32.ofNat (pl + nl + 2)))] [(.int (Int32.ofNat nl)), (.int (Int32.ofNat pl)), (.int (Int32.ofNat (pl + nl + 2))), (.int (0 : Int32)), (.ref xr_392)])) _
    refine XS.aload X397.here hx rfl (hb hby at_213) rfl rfl ?_
    show Steps p.tables e below (T397.setTop (mkF m 215 #[.val (.int i0), .val (.int i1), .val (.int (Int32.ofNat pl)), .val (.int rv_303), .val (.int rv_304), .val (.int rv_305), .val (.int (Int32.ofNat nl)), .val (.int n0_), .val (.int n1_), .val (.int n2_), .val (.ref b315), .val (.ref b329), .val (.ref xr_348), .val (.ref xr_353), .val (.ref b361), .val (.ref xr_392), .val (.int (Int32.ofNat (pl + nl + 2)))] [(.ref b315), (.int (Int32.ofNat nl)), (.int (Int32.ofNat pl)), (.int (Int32.ofNat (pl + nl + 2))), (.int (0 : Int32)), (.ref xr_392)])) _
    refine XS.aload X397.here hx rfl (hb hby at_215) rfl rfl ?_
    show Steps p.tables e below (T397.setTop (mkF m 217 #[.val (.int i0), .val (.int i1), .val (.int (Int32.ofNat pl)), .val (.int rv_303), .val (.int rv_304), .val (.int rv_305), .val (.int (Int32.ofNat nl)), .val (.int n0_), .val (.int n1_), .val (.int n2_), .val (.ref b315), .val (.ref b329), .val (.ref xr_348), .val (.ref xr_353), .val (.ref b361), .val (.ref xr_392), .val (.int (Int32.ofNat (pl + nl + 2)))] [(.ref b329), (.ref b315), (.int (Int32.ofNat nl)), (.int (Int32.ofNat pl)), (.int (Int32.ofNat (pl + nl + 2))), (.int (0 : Int32)), (.ref xr_392)])) _
    refine st404 _ ?_
    show Steps p.tables e below (T404.setTop (mkF m 220 #[.val (.int i0), .val (.int i1), .val (.int (Int32.ofNat pl)), .val (.int rv_303), .val (.int rv_304), .val (.int rv_305), .val (.int (Int32.ofNat nl)), .val (.int n0_), .val (.int n1_), .val (.int n2_), .val (.ref b315), .val (.ref b329), .val (.ref xr_348), .val (.ref xr_353), .val (.ref b361), .val (.ref xr_392), .val (.int (Int32.ofNat (pl + nl + 2)))] [(.int (1 : Int32))])) _
    refine XS.ifNo X404.here hx rfl (hb hby at_220) rfl ((if0 _ _).trans (feq ((by decide) : ¬ ((1 : Int32) = (0 : Int32)))).1) ?_
    show Steps p.tables e below (T404.setTop (mkF m 223 #[.val (.int i0), .val (.int i1), .val (.int (Int32.ofNat pl)), .val (.int rv_303), .val (.int rv_304), .val (.int rv_305), .val (.int (Int32.ofNat nl)), .val (.int n0_), .val (.int n1_), .val (.int n2_), .val (.ref b315), .val (.ref b329), .val (.ref xr_348), .val (.ref xr_353), .val (.ref b361), .val (.ref xr_392), .val (.int (Int32.ofNat (pl + nl + 2)))] [])) _
    refine XS.aload X404.here hx rfl (hb hby at_223) rfl rfl ?_
    show Steps p.tables e below (T404.setTop (mkF m 225 #[.val (.int i0), .val (.int i1), .val (.int (Int32.ofNat pl)), .val (.int rv_303), .val (.int rv_304), .val (.int rv_305), .val (.int (Int32.ofNat nl)), .val (.int n0_), .val (.int n1_), .val (.int n2_), .val (.ref b315), .val (.ref b329), .val (.ref xr_348), .val (.ref xr_353), .val (.ref b361), .val (.ref xr_392), .val (.int (Int32.ofNat (pl + nl + 2)))] [(.ref xr_392)])) _
    refine XS.iconst X404.here hx rfl (hb hby at_225) ?_
    show Steps p.tables e below (T404.setTop (mkF m 226 #[.val (.int i0), .val (.int i1), .val (.int (Int32.ofNat pl)), .val (.int rv_303), .val (.int rv_304), .val (.int rv_305), .val (.int (Int32.ofNat nl)), .val (.int n0_), .val (.int n1_), .val (.int n2_), .val (.ref b315), .val (.ref b329), .val (.ref xr_348), .val (.ref xr_353), .val (.ref b361), .val (.ref xr_392), .val (.int (Int32.ofNat (pl + nl + 2)))] [(.int (1 : Int32)), (.ref xr_392)])) _
    refine XS.iload X404.here hx rfl (hb hby at_226) rfl ?_
    show Steps p.tables e below (T404.setTop (mkF m 228 #[.val (.int i0), .val (.int i1), .val (.int (Int32.ofNat pl)), .val (.int rv_303), .val (.int rv_304), .val (.int rv_305), .val (.int (Int32.ofNat nl)), .val (.int n0_), .val (.int n1_), .val (.int n2_), .val (.ref b315), .val (.ref b329), .val (.ref xr_348), .val (.ref xr_353), .val (.ref b361), .val (.ref xr_392), .val (.int (Int32.ofNat (pl + nl + 2)))] [(.int (Int32.ofNat (pl + nl + 2))), (.int (1 : Int32)), (.ref xr_392)])) _
    refine XS.iloadN X404.here hx rfl (hb hby at_228) rfl ?_
    show Steps p.tables e below (T404.setTop (mkF m 229 #[.val (.int i0), .val (.int i1), .val (.int (Int32.ofNat pl)), .val (.int rv_303), .val (.int rv_304), .val (.int rv_305), .val (.int (Int32.ofNat nl)), .val (.int n0_), .val (.int n1_), .val (.int n2_), .val (.ref b315), .val (.ref b329), .val (.ref xr_348), .val (.ref xr_353), .val (.ref b361), .val (.ref xr_392), .val (.int (Int32.ofNat (pl + nl + 2)))] [(.int (Int32.ofNat pl)), (.int (Int32.ofNat (pl + nl + 2))), (.int (1 : Int32)), (.ref xr_392)])) _
    refine XS.iload X404.here hx rfl (hb hby at_229) rfl ?_
    show Steps p.tables e below (T404.setTop (mkF m 231 #[.val (.int i0), .val (.int i1), .val (.int (Int32.ofNat pl)), .val (.int rv_303), .val (.int rv_304), .val (.int rv_305), .val (.int (Int32.ofNat nl)), .val (.int n0_), .val (.int n1_), .val (.int n2_), .val (.ref b315), .val (.ref b329), .val (.ref xr_348), .val (.ref xr_353), .val (.ref b361), .val (.ref xr_392), .val (.int (Int32.ofNat (pl + nl + 2)))] [(.int (Int32.ofNat nl)), (.int (Int32.ofNat pl)), (.int (Int32.ofNat (pl + nl + 2))), (.int (1 : Int32)), (.ref xr_392)])) _
    refine XS.aload X404.here hx rfl (hb hby at_231) rfl rfl ?_
    show Steps p.tables e below (T404.setTop (mkF m 233 #[.val (.int i0), .val (.int i1), .val (.int (Int32.ofNat pl)), .val (.int rv_303), .val (.int rv_304), .val (.int rv_305), .val (.int (Int32.ofNat nl)), .val (.int n0_), .val (.int n1_), .val (.int n2_), .val (.ref b315), .val (.ref b329), .val (.ref xr_348), .val (.ref xr_353), .val (.ref b361), .val (.ref xr_392), .val (.int (Int32.ofNat (pl + nl + 2)))] [(.ref b315), (.int (Int32.ofNat nl)), (.int (Int32.ofNat pl)), (.int (Int32.ofNat (pl + nl + 2))), (.int (1 : Int32)), (.ref xr_392)])) _
    refine XS.aload X404.here hx rfl (hb hby at_233) rfl rfl ?_
    show Steps p.tables e below (T404.setTop (mkF m 235 #[.val (.int i0), .val (.int i1), .val (.int (Int32.ofNat pl)), .val (.int rv_303), .val (.int rv_304), .val (.int rv_305), .val (.int (Int32.ofNat nl)), .val (.int n0_), .val (.int n1_), .val (.int n2_), .val (.ref b315), .val (.ref b329), .val (.ref xr_348), .val (.ref xr_353), .val (.ref b361), .val (.ref xr_392), .val (.int (Int32.ofNat (pl + nl + 2)))] [(.ref b329), (.ref b315), (.int (Int32.ofNat nl)), (.int (Int32.ofNat pl)), (.int (Int32.ofNat (pl + nl + 2))), (.int (1 : Int32)), (.ref xr_392)])) _
    refine st405 _ ?_
    show Steps p.tables e below (T405.setTop (mkF m 238 #[.val (.int i0), .val (.int i1), .val (.int (Int32.ofNat pl)), .val (.int rv_303), .val (.int rv_304), .val (.int rv_305), .val (.int (Int32.ofNat nl)), .val (.int n0_), .val (.int n1_), .val (.int n2_), .val (.ref b315), .val (.ref b329), .val (.ref xr_348), .val (.ref xr_353), .val (.ref b361), .val (.ref xr_392), .val (.int (Int32.ofNat (pl + nl + 2)))] [(.int (1 : Int32))])) _
    refine XS.ifNo X405.here hx rfl (hb hby at_238) rfl ((if0 _ _).trans (feq ((by decide) : ¬ ((1 : Int32) = (0 : Int32)))).1) ?_
    show Steps p.tables e below (T405.setTop (mkF m 241 #[.val (.int i0), .val (.int i1), .val (.int (Int32.ofNat pl)), .val (.int rv_303), .val (.int rv_304), .val (.int rv_305), .val (.int (Int32.ofNat nl)), .val (.int n0_), .val (.int n1_), .val (.int n2_), .val (.ref b315), .val (.ref b329), .val (.ref xr_348), .val (.ref xr_353), .val (.ref b361), .val (.ref xr_392), .val (.int (Int32.ofNat (pl + nl + 2)))] [])) _
    refine XS.aload X405.here hx rfl (hb hby at_241) rfl rfl ?_
    show Steps p.tables e below (T405.setTop (mkF m 243 #[.val (.int i0), .val (.int i1), .val (.int (Int32.ofNat pl)), .val (.int rv_303), .val (.int rv_304), .val (.int rv_305), .val (.int (Int32.ofNat nl)), .val (.int n0_), .val (.int n1_), .val (.int n2_), .val (.ref b315), .val (.ref b329), .val (.ref xr_348), .val (.ref xr_353), .val (.ref b361), .val (.ref xr_392), .val (.int (Int32.ofNat (pl + nl + 2)))] [(.ref xr_392)])) _
    refine XS.iconst X405.here hx rfl (hb hby at_243) ?_
    show Steps p.tables e below (T405.setTop (mkF m 244 #[.val (.int i0), .val (.int i1), .val (.int (Int32.ofNat pl)), .val (.int rv_303), .val (.int rv_304), .val (.int rv_305), .val (.int (Int32.ofNat nl)), .val (.int n0_), .val (.int n1_), .val (.int n2_), .val (.ref b315), .val (.ref b329), .val (.ref xr_348), .val (.ref xr_353), .val (.ref b361), .val (.ref xr_392), .val (.int (Int32.ofNat (pl + nl + 2)))] [(.int (2 : Int32)), (.ref xr_392)])) _
    refine XS.iload X405.here hx rfl (hb hby at_244) rfl ?_
    show Steps p.tables e below (T405.setTop (mkF m 246 #[.val (.int i0), .val (.int i1), .val (.int (Int32.ofNat pl)), .val (.int rv_303), .val (.int rv_304), .val (.int rv_305), .val (.int (Int32.ofNat nl)), .val (.int n0_), .val (.int n1_), .val (.int n2_), .val (.ref b315), .val (.ref b329), .val (.ref xr_348), .val (.ref xr_353), .val (.ref b361), .val (.ref xr_392), .val (.int (Int32.ofNat (pl + nl + 2)))] [(.int (Int32.ofNat (pl + nl + 2))), (.int (2 : Int32)), (.ref xr_392)])) _
    refine XS.iloadN X405.here hx rfl (hb hby at_246) rfl ?_
    show Steps p.tables e below (T405.setTop (mkF m 247 #[.val (.int i0), .val (.int i1), .val (.int (Int32.ofNat pl)), .val (.int rv_303), .val (.int rv_304), .val (.int rv_305), .val (.int (Int32.ofNat nl)), .val (.int n0_), .val (.int n1_), .val (.int n2_), .val (.ref b315), .val (.ref b329), .val (.ref xr_348), .val (.ref xr_353), .val (.ref b361), .val (.ref xr_392), .val (.int (Int32.ofNat (pl + nl + 2)))] [(.int (Int32.ofNat pl)), (.int (Int32.ofNat (pl + nl + 2))), (.int (2 : Int32)), (.ref xr_392)])) _
    refine XS.iload X405.here hx rfl (hb hby at_247) rfl ?_
    show Steps p.tables e below (T405.setTop (mkF m 249 #[.val (.int i0), .val (.int i1), .val (.int (Int32.ofNat pl)), .val (.int rv_303), .val (.int rv_304), .val (.int rv_305), .val (.int (Int32.ofNat nl)), .val (.int n0_), .val (.int n1_), .val (.int n2_), .val (.ref b315), .val (.ref b329), .val (.ref xr_348), .val (.ref xr_353), .val (.ref b361), .val (.ref xr_392), .val (.int (Int32.ofNat (pl + nl + 2)))] [(.int (Int32.ofNat nl)), (.int (Int32.ofNat pl)), (.int (Int32.ofNat (pl + nl + 2))), (.int (2 : Int32)), (.ref xr_392)])) _
    refine XS.aload X405.here hx rfl (hb hby at_249) rfl rfl ?_
    show Steps p.tables e below (T405.setTop (mkF m 251 #[.val (.int i0), .val (.int i1), .val (.int (Int32.ofNat pl)), .val (.int rv_303), .val (.int rv_304), .val (.int rv_305), .val (.int (Int32.ofNat nl)), .val (.int n0_), .val (.int n1_), .val (.int n2_), .val (.ref b315), .val (.ref b329), .val (.ref xr_348), .val (.ref xr_353), .val (.ref b361), .val (.ref xr_392), .val (.int (Int32.ofNat (pl + nl + 2)))] [(.ref b315), (.int (Int32.ofNat nl)), (.int (Int32.ofNat pl)), (.int (Int32.ofNat (pl + nl + 2))), (.int (2 : Int32)), (.ref xr_392)])) _
    refine XS.aload X405.here hx rfl (hb hby at_251) rfl rfl ?_
    show Steps p.tables e below (T405.setTop (mkF m 253 #[.val (.int i0), .val (.int i1), .val (.int (Int32.ofNat pl)), .val (.int rv_303), .val (.int rv_304), .val (.int rv_305), .val (.int (Int32.ofNat nl)), .val (.int n0_), .val (.int n1_), .val (.int n2_), .val (.ref b315), .val (.ref b329), .val (.ref xr_348), .val (.ref xr_353), .val (.ref b361), .val (.ref xr_392), .val (.int (Int32.ofNat (pl + nl + 2)))] [(.ref b329), (.ref b315), (.int (Int32.ofNat nl)), (.int (Int32.ofNat pl)), (.int (Int32.ofNat (pl + nl + 2))), (.int (2 : Int32)), (.ref xr_392)])) _
    refine st406 _ ?_
    show Steps p.tables e below (T406.setTop (mkF m 256 #[.val (.int i0), .val (.int i1), .val (.int (Int32.ofNat pl)), .val (.int rv_303), .val (.int rv_304), .val (.int rv_305), .val (.int (Int32.ofNat nl)), .val (.int n0_), .val (.int n1_), .val (.int n2_), .val (.ref b315), .val (.ref b329), .val (.ref xr_348), .val (.ref xr_353), .val (.ref b361), .val (.ref xr_392), .val (.int (Int32.ofNat (pl + nl + 2)))] [(.int (1 : Int32))])) _
    refine XS.ifNo X406.here hx rfl (hb hby at_256) rfl ((if0 _ _).trans (feq ((by decide) : ¬ ((1 : Int32) = (0 : Int32)))).1) ?_
    show Steps p.tables e below (T406.setTop (mkF m 259 #[.val (.int i0), .val (.int i1), .val (.int (Int32.ofNat pl)), .val (.int rv_303), .val (.int rv_304), .val (.int rv_305), .val (.int (Int32.ofNat nl)), .val (.int n0_), .val (.int n1_), .val (.int n2_), .val (.ref b315), .val (.ref b329), .val (.ref xr_348), .val (.ref xr_353), .val (.ref b361), .val (.ref xr_392), .val (.int (Int32.ofNat (pl + nl + 2)))] [])) _
    refine XS.aload X406.here hx rfl (hb hby at_259) rfl rfl ?_
    show Steps p.tables e below (T406.setTop (mkF m 261 #[.val (.int i0), .val (.int i1), .val (.int (Int32.ofNat pl)), .val (.int rv_303), .val (.int rv_304), .val (.int rv_305), .val (.int (Int32.ofNat nl)), .val (.int n0_), .val (.int n1_), .val (.int n2_), .val (.ref b315), .val (.ref b329), .val (.ref xr_348), .val (.ref xr_353), .val (.ref b361), .val (.ref xr_392), .val (.int (Int32.ofNat (pl + nl + 2)))] [(.ref xr_392)])) _
    refine XS.iconst X406.here hx rfl (hb hby at_261) ?_
    show Steps p.tables e below (T406.setTop (mkF m 262 #[.val (.int i0), .val (.int i1), .val (.int (Int32.ofNat pl)), .val (.int rv_303), .val (.int rv_304), .val (.int rv_305), .val (.int (Int32.ofNat nl)), .val (.int n0_), .val (.int n1_), .val (.int n2_), .val (.ref b315), .val (.ref b329), .val (.ref xr_348), .val (.ref xr_353), .val (.ref b361), .val (.ref xr_392), .val (.int (Int32.ofNat (pl + nl + 2)))] [(.int (3 : Int32)), (.ref xr_392)])) _
    refine XS.iload X406.here hx rfl (hb hby at_262) rfl ?_
    show Steps p.tables e below (T406.setTop (mkF m 264 #[.val (.int i0), .val (.int i1), .val (.int (Int32.ofNat pl)), .val (.int rv_303), .val (.int rv_304), .val (.int rv_305), .val (.int (Int32.ofNat nl)), .val (.int n0_), .val (.int n1_), .val (.int n2_), .val (.ref b315), .val (.ref b329), .val (.ref xr_348), .val (.ref xr_353), .val (.ref b361), .val (.ref xr_392), .val (.int (Int32.ofNat (pl + nl + 2)))] [(.int (Int32.ofNat (pl + nl + 2))), (.int (3 : Int32)), (.ref xr_392)])) _
    refine XS.iloadN X406.here hx rfl (hb hby at_264) rfl ?_
    show Steps p.tables e below (T406.setTop (mkF m 265 #[.val (.int i0), .val (.int i1), .val (.int (Int32.ofNat pl)), .val (.int rv_303), .val (.int rv_304), .val (.int rv_305), .val (.int (Int32.ofNat nl)), .val (.int n0_), .val (.int n1_), .val (.int n2_), .val (.ref b315), .val (.ref b329), .val (.ref xr_348), .val (.ref xr_353), .val (.ref b361), .val (.ref xr_392), .val (.int (Int32.ofNat (pl + nl + 2)))] [(.int (Int32.ofNat pl)), (.int (Int32.ofNat (pl + nl + 2))), (.int (3 : Int32)), (.ref xr_392)])) _
    refine XS.iload X406.here hx rfl (hb hby at_265) rfl ?_
    show Steps p.tables e below (T406.setTop (mkF m 267 #[.val (.int i0), .val (.int i1), .val (.int (Int32.ofNat pl)), .val (.int rv_303), .val (.int rv_304), .val (.int rv_305), .val (.int (Int32.ofNat nl)), .val (.int n0_), .val (.int n1_), .val (.int n2_), .val (.ref b315), .val (.ref b329), .val (.ref xr_348), .val (.ref xr_353), .val (.ref b361), .val (.ref xr_392), .val (.int (Int32.ofNat (pl + nl + 2)))] [(.int (Int32.ofNat nl)), (.int (Int32.ofNat pl)), (.int (Int32.ofNat (pl + nl + 2))), (.int (3 : Int32)), (.ref xr_392)])) _
    refine XS.aload X406.here hx rfl (hb hby at_267) rfl rfl ?_
    show Steps p.tables e below (T406.setTop (mkF m 269 #[.val (.int i0), .val (.int i1), .val (.int (Int32.ofNat pl)), .val (.int rv_303), .val (.int rv_304), .val (.int rv_305), .val (.int (Int32.ofNat nl)), .val (.int n0_), .val (.int n1_), .val (.int n2_), .val (.ref b315), .val (.ref b329), .val (.ref xr_348), .val (.ref xr_353), .val (.ref b361), .val (.ref xr_392), .val (.int (Int32.ofNat (pl + nl + 2)))] [(.ref b315), (.int (Int32.ofNat nl)), (.int (Int32.ofNat pl)), (.int (Int32.ofNat (pl + nl + 2))), (.int (3 : Int32)), (.ref xr_392)])) _
    refine XS.aload X406.here hx rfl (hb hby at_269) rfl rfl ?_
    show Steps p.tables e below (T406.setTop (mkF m 271 #[.val (.int i0), .val (.int i1), .val (.int (Int32.ofNat pl)), .val (.int rv_303), .val (.int rv_304), .val (.int rv_305), .val (.int (Int32.ofNat nl)), .val (.int n0_), .val (.int n1_), .val (.int n2_), .val (.ref b315), .val (.ref b329), .val (.ref xr_348), .val (.ref xr_353), .val (.ref b361), .val (.ref xr_392), .val (.int (Int32.ofNat (pl + nl + 2)))] [(.ref b329), (.ref b315), (.int (Int32.ofNat nl)), (.int (Int32.ofNat pl)), (.int (Int32.ofNat (pl + nl + 2))), (.int (3 : Int32)), (.ref xr_392)])) _
    refine st407 _ ?_
    show Steps p.tables e below (T407.setTop (mkF m 274 #[.val (.int i0), .val (.int i1), .val (.int (Int32.ofNat pl)), .val (.int rv_303), .val (.int rv_304), .val (.int rv_305), .val (.int (Int32.ofNat nl)), .val (.int n0_), .val (.int n1_), .val (.int n2_), .val (.ref b315), .val (.ref b329), .val (.ref xr_348), .val (.ref xr_353), .val (.ref b361), .val (.ref xr_392), .val (.int (Int32.ofNat (pl + nl + 2)))] [(.int (1 : Int32))])) _
    refine XS.ifNo X407.here hx rfl (hb hby at_274) rfl ((if0 _ _).trans (feq ((by decide) : ¬ ((1 : Int32) = (0 : Int32)))).1) ?_
    show Steps p.tables e below (T407.setTop (mkF m 277 #[.val (.int i0), .val (.int i1), .val (.int (Int32.ofNat pl)), .val (.int rv_303), .val (.int rv_304), .val (.int rv_305), .val (.int (Int32.ofNat nl)), .val (.int n0_), .val (.int n1_), .val (.int n2_), .val (.ref b315), .val (.ref b329), .val (.ref xr_348), .val (.ref xr_353), .val (.ref b361), .val (.ref xr_392), .val (.int (Int32.ofNat (pl + nl + 2)))] [])) _
    refine XS.aload X407.here hx rfl (hb hby at_277) rfl rfl ?_
    show Steps p.tables e below (T407.setTop (mkF m 279 #[.val (.int i0), .val (.int i1), .val (.int (Int32.ofNat pl)), .val (.int rv_303), .val (.int rv_304), .val (.int rv_305), .val (.int (Int32.ofNat nl)), .val (.int n0_), .val (.int n1_), .val (.int n2_), .val (.ref b315), .val (.ref b329), .val (.ref xr_348), .val (.ref xr_353), .val (.ref b361), .val (.ref xr_392), .val (.int (Int32.ofNat (pl + nl + 2)))] [(.ref xr_392)])) _
    refine XS.iconst X407.here hx rfl (hb hby at_279) ?_
    show Steps p.tables e below (T407.setTop (mkF m 280 #[.val (.int i0), .val (.int i1), .val (.int (Int32.ofNat pl)), .val (.int rv_303), .val (.int rv_304), .val (.int rv_305), .val (.int (Int32.ofNat nl)), .val (.int n0_), .val (.int n1_), .val (.int n2_), .val (.ref b315), .val (.ref b329), .val (.ref xr_348), .val (.ref xr_353), .val (.ref b361), .val (.ref xr_392), .val (.int (Int32.ofNat (pl + nl + 2)))] [(.int (4 : Int32)), (.ref xr_392)])) _
    refine XS.iload X407.here hx rfl (hb hby at_280) rfl ?_
    show Steps p.tables e below (T407.setTop (mkF m 282 #[.val (.int i0), .val (.int i1), .val (.int (Int32.ofNat pl)), .val (.int rv_303), .val (.int rv_304), .val (.int rv_305), .val (.int (Int32.ofNat nl)), .val (.int n0_), .val (.int n1_), .val (.int n2_), .val (.ref b315), .val (.ref b329), .val (.ref xr_348), .val (.ref xr_353), .val (.ref b361), .val (.ref xr_392), .val (.int (Int32.ofNat (pl + nl + 2)))] [(.int (Int32.ofNat (pl + nl + 2))), (.int (4 : Int32)), (.ref xr_392)])) _
    refine XS.iloadN X407.here hx rfl (hb hby at_282) rfl ?_
    show Steps p.tables e below (T407.setTop (mkF m 283 #[.val (.int i0), .val (.int i1), .val (.int (Int32.ofNat pl)), .val (.int rv_303), .val (.int rv_304), .val (.int rv_305), .val (.int (Int32.ofNat nl)), .val (.int n0_), .val (.int n1_), .val (.int n2_), .val (.ref b315), .val (.ref b329), .val (.ref xr_348), .val (.ref xr_353), .val (.ref b361), .val (.ref xr_392), .val (.int (Int32.ofNat (pl + nl + 2)))] [(.int (Int32.ofNat pl)), (.int (Int32.ofNat (pl + nl + 2))), (.int (4 : Int32)), (.ref xr_392)])) _
    refine XS.iload X407.here hx rfl (hb hby at_283) rfl ?_
    show Steps p.tables e below (T407.setTop (mkF m 285 #[.val (.int i0), .val (.int i1), .val (.int (Int32.ofNat pl)), .val (.int rv_303), .val (.int rv_304), .val (.int rv_305), .val (.int (Int32.ofNat nl)), .val (.int n0_), .val (.int n1_), .val (.int n2_), .val (.ref b315), .val (.ref b329), .val (.ref xr_348), .val (.ref xr_353), .val (.ref b361), .val (.ref xr_392), .val (.int (Int32.ofNat (pl + nl + 2)))] [(.int (Int32.ofNat nl)), (.int (Int32.ofNat pl)), (.int (Int32.ofNat (pl + nl + 2))), (.int (4 : Int32)), (.ref xr_392)])) _
    refine XS.aload X407.here hx rfl (hb hby at_285) rfl rfl ?_
    show Steps p.tables e below (T407.setTop (mkF m 287 #[.val (.int i0), .val (.int i1), .val (.int (Int32.ofNat pl)), .val (.int rv_303), .val (.int rv_304), .val (.int rv_305), .val (.int (Int32.ofNat nl)), .val (.int n0_), .val (.int n1_), .val (.int n2_), .val (.ref b315), .val (.ref b329), .val (.ref xr_348), .val (.ref xr_353), .val (.ref b361), .val (.ref xr_392), .val (.int (Int32.ofNat (pl + nl + 2)))] [(.ref b315), (.int (Int32.ofNat nl)), (.int (Int32.ofNat pl)), (.int (Int32.ofNat (pl + nl + 2))), (.int (4 : Int32)), (.ref xr_392)])) _
    refine XS.aload X407.here hx rfl (hb hby at_287) rfl rfl ?_
    show Steps p.tables e below (T407.setTop (mkF m 289 #[.val (.int i0), .val (.int i1), .val (.int (Int32.ofNat pl)), .val (.int rv_303), .val (.int rv_304), .val (.int rv_305), .val (.int (Int32.ofNat nl)), .val (.int n0_), .val (.int n1_), .val (.int n2_), .val (.ref b315), .val (.ref b329), .val (.ref xr_348), .val (.ref xr_353), .val (.ref b361), .val (.ref xr_392), .val (.int (Int32.ofNat (pl + nl + 2)))] [(.ref b329), (.ref b315), (.int (Int32.ofNat nl)), (.int (Int32.ofNat pl)), (.int (Int32.ofNat (pl + nl + 2))), (.int (4 : Int32)), (.ref xr_392)])) _
    refine st408 _ ?_
    show Steps p.tables e below (T408.setTop (mkF m 292 #[.val (.int i0), .val (.int i1), .val (.int (Int32.ofNat pl)), .val (.int rv_303), .val (.int rv_304), .val (.int rv_305), .val (.int (Int32.ofNat nl)), .val (.int n0_), .val (.int n1_), .val (.int n2_), .val (.ref b315), .val (.ref b329), .val (.ref xr_348), .val (.ref xr_353), .val (.ref b361), .val (.ref xr_392), .val (.int (Int32.ofNat (pl + nl + 2)))] [(.int (1 : Int32))])) _
    refine XS.ifNo X408.here hx rfl (hb hby at_292) rfl ((if0 _ _).trans (feq ((by decide) : ¬ ((1 : Int32) = (0 : Int32)))).1) ?_
    show Steps p.tables e below (T408.setTop (mkF m 295 #[.val (.int i0), .val (.int i1), .val (.int (Int32.ofNat pl)), .val (.int rv_303), .val (.int rv_304), .val (.int rv_305), .val (.int (Int32.ofNat nl)), .val (.int n0_), .val (.int n1_), .val (.int n2_), .val (.ref b315), .val (.ref b329), .val (.ref xr_348), .val (.ref xr_353), .val (.ref b361), .val (.ref xr_392), .val (.int (Int32.ofNat (pl + nl + 2)))] [])) _
    refine XS.aload X408.here hx rfl (hb hby at_295) rfl rfl ?_
    show Steps p.tables e below (T408.setTop (mkF m 297 #[.val (.int i0), .val (.int i1), .val (.int (Int32.ofNat pl)), .val (.int rv_303), .val (.int rv_304), .val (.int rv_305), .val (.int (Int32.ofNat nl)), .val (.int n0_), .val (.int n1_), .val (.int n2_), .val (.ref b315), .val (.ref b329), .val (.ref xr_348), .val (.ref xr_353), .val (.ref b361), .val (.ref xr_392), .val (.int (Int32.ofNat (pl + nl + 2)))] [(.ref xr_392)])) _
    refine XS.iconst X408.here hx rfl (hb hby at_297) ?_
    show Steps p.tables e below (T408.setTop (mkF m 298 #[.val (.int i0), .val (.int i1), .val (.int (Int32.ofNat pl)), .val (.int rv_303), .val (.int rv_304), .val (.int rv_305), .val (.int (Int32.ofNat nl)), .val (.int n0_), .val (.int n1_), .val (.int n2_), .val (.ref b315), .val (.ref b329), .val (.ref xr_348), .val (.ref xr_353), .val (.ref b361), .val (.ref xr_392), .val (.int (Int32.ofNat (pl + nl + 2)))] [(.int (5 : Int32)), (.ref xr_392)])) _
    refine XS.iload X408.here hx rfl (hb hby at_298) rfl ?_
    show Steps p.tables e below (T408.setTop (mkF m 300 #[.val (.int i0), .val (.int i1), .val (.int (Int32.ofNat pl)), .val (.int rv_303), .val (.int rv_304), .val (.int rv_305), .val (.int (Int32.ofNat nl)), .val (.int n0_), .val (.int n1_), .val (.int n2_), .val (.ref b315), .val (.ref b329), .val (.ref xr_348), .val (.ref xr_353), .val (.ref b361), .val (.ref xr_392), .val (.int (Int32.ofNat (pl + nl + 2)))] [(.int (Int32.ofNat (pl + nl + 2))), (.int (5 : Int32)), (.ref xr_392)])) _
    refine XS.iloadN X408.here hx rfl (hb hby at_300) rfl ?_
    show Steps p.tables e below (T408.setTop (mkF m 301 #[.val (.int i0), .val (.int i1), .val (.int (Int32.ofNat pl)), .val (.int rv_303), .val (.int rv_304), .val (.int rv_305), .val (.int (Int32.ofNat nl)), .val (.int n0_), .val (.int n1_), .val (.int n2_), .val (.ref b315), .val (.ref b329), .val (.ref xr_348), .val (.ref xr_353), .val (.ref b361), .val (.ref xr_392), .val (.int (Int32.ofNat (pl + nl + 2)))] [(.int (Int32.ofNat pl)), (.int (Int32.ofNat (pl + nl + 2))), (.int (5 : Int32)), (.ref xr_392)])) _
    refine XS.iload X408.here hx rfl (hb hby at_301) rfl ?_
    show Steps p.tables e below (T408.setTop (mkF m 303 #[.val (.int i0), .val (.int i1), .val (.int (Int32.ofNat pl)), .val (.int rv_303), .val (.int rv_304), .val (.int rv_305), .val (.int (Int32.ofNat nl)), .val (.int n0_), .val (.int n1_), .val (.int n2_), .val (.ref b315), .val (.ref b329), .val (.ref xr_348), .val (.ref xr_353), .val (.ref b361), .val (.ref xr_392), .val (.int (Int32.ofNat (pl + nl + 2)))] [(.int (Int32.ofNat nl)), (.int (Int32.ofNat pl)), (.int (Int32.ofNat (pl + nl + 2))), (.int (5 : Int32)), (.ref xr_392)])) _
    refine XS.aload X408.here hx rfl (hb hby at_303) rfl rfl ?_
    show Steps p.tables e below (T408.setTop (mkF m 305 #[.val (.int i0), .val (.int i1), .val (.int (Int32.ofNat pl)), .val (.int rv_303), .val (.int rv_304), .val (.int rv_305), .val (.int (Int32.ofNat nl)), .val (.int n0_), .val (.int n1_), .val (.int n2_), .val (.ref b315), .val (.ref b329), .val (.ref xr_348), .val (.ref xr_353), .val (.ref b361), .val (.ref xr_392), .val (.int (Int32.ofNat (pl + nl + 2)))] [(.ref b315), (.int (Int32.ofNat nl)), (.int (Int32.ofNat pl)), (.int (Int32.ofNat (pl + nl + 2))), (.int (5 : Int32)), (.ref xr_392)])) _
    refine XS.aload X408.here hx rfl (hb hby at_305) rfl rfl ?_
    show Steps p.tables e below (T408.setTop (mkF m 307 #[.val (.int i0), .val (.int i1), .val (.int (Int32.ofNat pl)), .val (.int rv_303), .val (.int rv_304), .val (.int rv_305), .val (.int (Int32.ofNat nl)), .val (.int n0_), .val (.int n1_), .val (.int n2_), .val (.ref b315), .val (.ref b329), .val (.ref xr_348), .val (.ref xr_353), .val (.ref b361), .val (.ref xr_392), .val (.int (Int32.ofNat (pl + nl + 2)))] [(.ref b329), (.ref b315), (.int (Int32.ofNat nl)), (.int (Int32.ofNat pl)), (.int (Int32.ofNat (pl + nl + 2))), (.int (5 : Int32)), (.ref xr_392)])) _
    refine st409 _ ?_
    show Steps p.tables e below (T409.setTop (mkF m 310 #[.val (.int i0), .val (.int i1), .val (.int (Int32.ofNat pl)), .val (.int rv_303), .val (.int rv_304), .val (.int rv_305), .val (.int (Int32.ofNat nl)), .val (.int n0_), .val (.int n1_), .val (.int n2_), .val (.ref b315), .val (.ref b329), .val (.ref xr_348), .val (.ref xr_353), .val (.ref b361), .val (.ref xr_392), .val (.int (Int32.ofNat (pl + nl + 2)))] [(.int (1 : Int32))])) _
    refine XS.ifNo X409.here hx rfl (hb hby at_310) rfl ((if0 _ _).trans (feq ((by decide) : ¬ ((1 : Int32) = (0 : Int32)))).1) ?_
    show Steps p.tables e below (T409.setTop (mkF m 313 #[.val (.int i0), .val (.int i1), .val (.int (Int32.ofNat pl)), .val (.int rv_303), .val (.int rv_304), .val (.int rv_305), .val (.int (Int32.ofNat nl)), .val (.int n0_), .val (.int n1_), .val (.int n2_), .val (.ref b315), .val (.ref b329), .val (.ref xr_348), .val (.ref xr_353), .val (.ref b361), .val (.ref xr_392), .val (.int (Int32.ofNat (pl + nl + 2)))] [])) _
    refine XS.aload X409.here hx rfl (hb hby at_313) rfl rfl ?_
    show Steps p.tables e below (T409.setTop (mkF m 315 #[.val (.int i0), .val (.int i1), .val (.int (Int32.ofNat pl)), .val (.int rv_303), .val (.int rv_304), .val (.int rv_305), .val (.int (Int32.ofNat nl)), .val (.int n0_), .val (.int n1_), .val (.int n2_), .val (.ref b315), .val (.ref b329), .val (.ref xr_348), .val (.ref xr_353), .val (.ref b361), .val (.ref xr_392), .val (.int (Int32.ofNat (pl + nl + 2)))] [(.ref xr_392)])) _
    refine XS.bipush X409.here hx rfl (hb hby at_315) ?_
    show Steps p.tables e below (T409.setTop (mkF m 317 #[.val (.int i0), .val (.int i1), .val (.int (Int32.ofNat pl)), .val (.int rv_303), .val (.int rv_304), .val (.int rv_305), .val (.int (Int32.ofNat nl)), .val (.int n0_), .val (.int n1_), .val (.int n2_), .val (.ref b315), .val (.ref b329), .val (.ref xr_348), .val (.ref xr_353), .val (.ref b361), .val (.ref xr_392), .val (.int (Int32.ofNat (pl + nl + 2)))] [(.int (6 : Int32)), (.ref xr_392)])) _
    refine XS.iload X409.here hx rfl (hb hby at_317) rfl ?_
    show Steps p.tables e below (T409.setTop (mkF m 319 #[.val (.int i0), .val (.int i1), .val (.int (Int32.ofNat pl)), .val (.int rv_303), .val (.int rv_304), .val (.int rv_305), .val (.int (Int32.ofNat nl)), .val (.int n0_), .val (.int n1_), .val (.int n2_), .val (.ref b315), .val (.ref b329), .val (.ref xr_348), .val (.ref xr_353), .val (.ref b361), .val (.ref xr_392), .val (.int (Int32.ofNat (pl + nl + 2)))] [(.int (Int32.ofNat (pl + nl + 2))), (.int (6 : Int32)), (.ref xr_392)])) _
    refine XS.iloadN X409.here hx rfl (hb hby at_319) rfl ?_
    show Steps p.tables e below (T409.setTop (mkF m 320 #[.val (.int i0), .val (.int i1), .val (.int (Int32.ofNat pl)), .val (.int rv_303), .val (.int rv_304), .val (.int rv_305), .val (.int (Int32.ofNat nl)), .val (.int n0_), .val (.int n1_), .val (.int n2_), .val (.ref b315), .val (.ref b329), .val (.ref xr_348), .val (.ref xr_353), .val (.ref b361), .val (.ref xr_392), .val (.int (Int32.ofNat (pl + nl + 2)))] [(.int (Int32.ofNat pl)), (.int (Int32.ofNat (pl + nl + 2))), (.int (6 : Int32)), (.ref xr_392)])) _
    refine XS.iload X409.here hx rfl (hb hby at_320) rfl ?_
    show Steps p.tables e below (T409.setTop (mkF m 322 #[.val (.int i0), .val (.int i1), .val (.int (Int32.ofNat pl)), .val (.int rv_303), .val (.int rv_304), .val (.int rv_305), .val (.int (Int32.ofNat nl)), .val (.int n0_), .val (.int n1_), .val (.int n2_), .val (.ref b315), .val (.ref b329), .val (.ref xr_348), .val (.ref xr_353), .val (.ref b361), .val (.ref xr_392), .val (.int (Int32.ofNat (pl + nl + 2)))] [(.int (Int32.ofNat nl)), (.int (Int32.ofNat pl)), (.int (Int32.ofNat (pl + nl + 2))), (.int (6 : Int32)), (.ref xr_392)])) _
    refine XS.aload X409.here hx rfl (hb hby at_322) rfl rfl ?_
    show Steps p.tables e below (T409.setTop (mkF m 324 #[.val (.int i0), .val (.int i1), .val (.int (Int32.ofNat pl)), .val (.int rv_303), .val (.int rv_304), .val (.int rv_305), .val (.int (Int32.ofNat nl)), .val (.int n0_), .val (.int n1_), .val (.int n2_), .val (.ref b315), .val (.ref b329), .val (.ref xr_348), .val (.ref xr_353), .val (.ref b361), .val (.ref xr_392), .val (.int (Int32.ofNat (pl + nl + 2)))] [(.ref b315), (.int (Int32.ofNat nl)), (.int (Int32.ofNat pl)), (.int (Int32.ofNat (pl + nl + 2))), (.int (6 : Int32)), (.ref xr_392)])) _
    refine XS.aload X409.here hx rfl (hb hby at_324) rfl rfl ?_
    show Steps p.tables e below (T409.setTop (mkF m 326 #[.val (.int i0), .val (.int i1), .val (.int (Int32.ofNat pl)), .val (.int rv_303), .val (.int rv_304), .val (.int rv_305), .val (.int (Int32.ofNat nl)), .val (.int n0_), .val (.int n1_), .val (.int n2_), .val (.ref b315), .val (.ref b329), .val (.ref xr_348), .val (.ref xr_353), .val (.ref b361), .val (.ref xr_392), .val (.int (Int32.ofNat (pl + nl + 2)))] [(.ref b329), (.ref b315), (.int (Int32.ofNat nl)), (.int (Int32.ofNat pl)), (.int (Int32.ofNat (pl + nl + 2))), (.int (6 : Int32)), (.ref xr_392)])) _
    refine st410 _ ?_
    show Steps p.tables e below (T410.setTop (mkF m 329 #[.val (.int i0), .val (.int i1), .val (.int (Int32.ofNat pl)), .val (.int rv_303), .val (.int rv_304), .val (.int rv_305), .val (.int (Int32.ofNat nl)), .val (.int n0_), .val (.int n1_), .val (.int n2_), .val (.ref b315), .val (.ref b329), .val (.ref xr_348), .val (.ref xr_353), .val (.ref b361), .val (.ref xr_392), .val (.int (Int32.ofNat (pl + nl + 2)))] [(.int (1 : Int32))])) _
    refine XS.ifNo X410.here hx rfl (hb hby at_329) rfl ((if0 _ _).trans (feq ((by decide) : ¬ ((1 : Int32) = (0 : Int32)))).1) ?_
    show Steps p.tables e below (T410.setTop (mkF m 332 #[.val (.int i0), .val (.int i1), .val (.int (Int32.ofNat pl)), .val (.int rv_303), .val (.int rv_304), .val (.int rv_305), .val (.int (Int32.ofNat nl)), .val (.int n0_), .val (.int n1_), .val (.int n2_), .val (.ref b315), .val (.ref b329), .val (.ref xr_348), .val (.ref xr_353), .val (.ref b361), .val (.ref xr_392), .val (.int (Int32.ofNat (pl + nl + 2)))] [])) _
    refine XS.aload X410.here hx rfl (hb hby at_332) rfl rfl ?_
    show Steps p.tables e below (T410.setTop (mkF m 334 #[.val (.int i0), .val (.int i1), .val (.int (Int32.ofNat pl)), .val (.int rv_303), .val (.int rv_304), .val (.int rv_305), .val (.int (Int32.ofNat nl)), .val (.int n0_), .val (.int n1_), .val (.int n2_), .val (.ref b315), .val (.ref b329), .val (.ref xr_348), .val (.ref xr_353), .val (.ref b361), .val (.ref xr_392), .val (.int (Int32.ofNat (pl + nl + 2)))] [(.ref xr_392)])) _
    refine XS.bipush X410.here hx rfl (hb hby at_334) ?_
    show Steps p.tables e below (T410.setTop (mkF m 336 #[.val (.int i0), .val (.int i1), .val (.int (Int32.ofNat pl)), .val (.int rv_303), .val (.int rv_304), .val (.int rv_305), .val (.int (Int32.ofNat nl)), .val (.int n0_), .val (.int n1_), .val (.int n2_), .val (.ref b315), .val (.ref b329), .val (.ref xr_348), .val (.ref xr_353), .val (.ref b361), .val (.ref xr_392), .val (.int (Int32.ofNat (pl + nl + 2)))] [(.int (7 : Int32)), (.ref xr_392)])) _
    refine XS.iload X410.here hx rfl (hb hby at_336) rfl ?_
    show Steps p.tables e below (T410.setTop (mkF m 338 #[.val (.int i0), .val (.int i1), .val (.int (Int32.ofNat pl)), .val (.int rv_303), .val (.int rv_304), .val (.int rv_305), .val (.int (Int32.ofNat nl)), .val (.int n0_), .val (.int n1_), .val (.int n2_), .val (.ref b315), .val (.ref b329), .val (.ref xr_348), .val (.ref xr_353), .val (.ref b361), .val (.ref xr_392), .val (.int (Int32.ofNat (pl + nl + 2)))] [(.int (Int32.ofNat (pl + nl + 2))), (.int (7 : Int32)), (.ref xr_392)])) _
    refine XS.iloadN X410.here hx rfl (hb hby at_338) rfl ?_
    show Steps p.tables e below (T410.setTop (mkF m 339 #[.val (.int i0), .val (.int i1), .val (.int (Int32.ofNat pl)), .val (.int rv_303), .val (.int rv_304), .val (.int rv_305), .val (.int (Int32.ofNat nl)), .val (.int n0_), .val (.int n1_), .val (.int n2_), .val (.ref b315), .val (.ref b329), .val (.ref xr_348), .val (.ref xr_353), .val (.ref b361), .val (.ref xr_392), .val (.int (Int32.ofNat (pl + nl + 2)))] [(.int (Int32.ofNat pl)), (.int (Int32.ofNat (pl + nl + 2))), (.int (7 : Int32)), (.ref xr_392)])) _
    refine XS.iload X410.here hx rfl (hb hby at_339) rfl ?_
    show Steps p.tables e below (T410.setTop (mkF m 341 #[.val (.int i0), .val (.int i1), .val (.int (Int32.ofNat pl)), .val (.int rv_303), .val (.int rv_304), .val (.int rv_305), .val (.int (Int32.ofNat nl)), .val (.int n0_), .val (.int n1_), .val (.int n2_), .val (.ref b315), .val (.ref b329), .val (.ref xr_348), .val (.ref xr_353), .val (.ref b361), .val (.ref xr_392), .val (.int (Int32.ofNat (pl + nl + 2)))] [(.int (Int32.ofNat nl)), (.int (Int32.ofNat pl)), (.int (Int32.ofNat (pl + nl + 2))), (.int (7 : Int32)), (.ref xr_392)])) _
    refine XS.aload X410.here hx rfl (hb hby at_341) rfl rfl ?_
    show Steps p.tables e below (T410.setTop (mkF m 343 #[.val (.int i0), .val (.int i1), .val (.int (Int32.ofNat pl)), .val (.int rv_303), .val (.int rv_304), .val (.int rv_305), .val (.int (Int32.ofNat nl)), .val (.int n0_), .val (.int n1_), .val (.int n2_), .val (.ref b315), .val (.ref b329), .val (.ref xr_348), .val (.ref xr_353), .val (.ref b361), .val (.ref xr_392), .val (.int (Int32.ofNat (pl + nl + 2)))] [(.ref b315), (.int (Int32.ofNat nl)), (.int (Int32.ofNat pl)), (.int (Int32.ofNat (pl + nl + 2))), (.int (7 : Int32)), (.ref xr_392)])) _
    refine XS.aload X410.here hx rfl (hb hby at_343) rfl rfl ?_
    show Steps p.tables e below (T410.setTop (mkF m 345 #[.val (.int i0), .val (.int i1), .val (.int (Int32.ofNat pl)), .val (.int rv_303), .val (.int rv_304), .val (.int rv_305), .val (.int (Int32.ofNat nl)), .val (.int n0_), .val (.int n1_), .val (.int n2_), .val (.ref b315), .val (.ref b329), .val (.ref xr_348), .val (.ref xr_353), .val (.ref b361), .val (.ref xr_392), .val (.int (Int32.ofNat (pl + nl + 2)))] [(.ref b329), (.ref b315), (.int (Int32.ofNat nl)), (.int (Int32.ofNat pl)), (.int (Int32.ofNat (pl + nl + 2))), (.int (7 : Int32)), (.ref xr_392)])) _
    refine st411 _ ?_
    show Steps p.tables e below (T411.setTop (mkF m 348 #[.val (.int i0), .val (.int i1), .val (.int (Int32.ofNat pl)), .val (.int rv_303), .val (.int rv_304), .val (.int rv_305), .val (.int (Int32.ofNat nl)), .val (.int n0_), .val (.int n1_), .val (.int n2_), .val (.ref b315), .val (.ref b329), .val (.ref xr_348), .val (.ref xr_353), .val (.ref b361), .val (.ref xr_392), .val (.int (Int32.ofNat (pl + nl + 2)))] [(.int (1 : Int32))])) _
    refine XS.ifNo X411.here hx rfl (hb hby at_348) rfl ((if0 _ _).trans (feq ((by decide) : ¬ ((1 : Int32) = (0 : Int32)))).1) ?_
    show Steps p.tables e below (T411.setTop (mkF m 351 #[.val (.int i0), .val (.int i1), .val (.int (Int32.ofNat pl)), .val (.int rv_303), .val (.int rv_304), .val (.int rv_305), .val (.int (Int32.ofNat nl)), .val (.int n0_), .val (.int n1_), .val (.int n2_), .val (.ref b315), .val (.ref b329), .val (.ref xr_348), .val (.ref xr_353), .val (.ref b361), .val (.ref xr_392), .val (.int (Int32.ofNat (pl + nl + 2)))] [])) _
    refine XS.iconst X411.here hx rfl (hb hby at_351) ?_
    show Steps p.tables e below (T411.setTop (mkF m 352 #[.val (.int i0), .val (.int i1), .val (.int (Int32.ofNat pl)), .val (.int rv_303), .val (.int rv_304), .val (.int rv_305), .val (.int (Int32.ofNat nl)), .val (.int n0_), .val (.int n1_), .val (.int n2_), .val (.ref b315), .val (.ref b329), .val (.ref xr_348), .val (.ref xr_353), .val (.ref b361), .val (.ref xr_392), .val (.int (Int32.ofNat (pl + nl + 2)))] [(.int (1 : Int32))])) _
    refine XS.goto X411.here hx rfl (pc0 := 352) (pc' := 356) rfl (hb hby at_352) (by decide) (by decide) ?_
    show Steps p.tables e below (T411.setTop (mkF m 356 #[.val (.int i0), .val (.int i1), .val (.int (Int32.ofNat pl)), .val (.int rv_303), .val (.int rv_304), .val (.int rv_305), .val (.int (Int32.ofNat nl)), .val (.int n0_), .val (.int n1_), .val (.int n2_), .val (.ref b315), .val (.ref b329), .val (.ref xr_348), .val (.ref xr_353), .val (.ref b361), .val (.ref xr_392), .val (.int (Int32.ofNat (pl + nl + 2)))] [(.int (1 : Int32))])) _
    exact retN X411 hx (t := .boolean) Bd.returns (by simp) (hb hby at_356) hr
  · show Q_law Z i0 i1 G fm h0 n0 _ T411.heap _
    rw [e411]
    exact ⟨rfl, N411⟩
set_option maxRecDepth 65536 in
set_option maxHeartbeats 40000000 in
theorem comes_1 {Post : Tables → Env → Array Value → State → Outcome → State → Prop} (hpost : ∀ tb e args s v u, (limb_1_1.after args s (.returned v) u = true ∧ limb_1_2.after args s (.returned v) u = true ∧ True) → ReturnedEndW s (.returned v) u (Jvm.fieldLocs frame_1_writes args s ++ Jvm.arrayLocs frame_1_arrays args s ++ Jvm.staticLocs frame_1_statics s) 40 3328 → Post tb e args s (.returned v) u) :
    ArmFor flags0 classFile x code maxLocals ret World_1 tables_1 room_1 Calls_1 rest_1 Pre_1 Post := by
  intro l hfl _ _ p e ha hc hk s m args below hf hA hF happ hP
  obtain ⟨hcalls, hrest, hpre⟩ := hP
  obtain ⟨-, -, -, hnamed, -, -, -, hat⟩ := (Spec.applies_iff hf).mp happ
  obtain ⟨hg, hn⟩ := and_e (Cond.before_iff.mp (show (Jvm.Cond.and given_1 narrow_1).before args s = true from hpre))
  obtain ⟨hcount, hg0⟩ := and_e hg
  obtain ⟨ha0, hg1⟩ := and_e hg0
  obtain ⟨w0, w1, rfl⟩ : ∃ w0 w1 : Value, args = #[w0, w1] := by
    have hs : args.size = 2 := by simpa [Cond.value, given_1] using hcount
    obtain ⟨L⟩ := args
    match L, hs with
    | [w0, w1], _ => exact ⟨w0, w1, rfl⟩
  have hw := fun d (hd : d ∈ tables_1) => atoms_spec (ws := Jvm.Cond.code x code maxLocals ret :: tables_1) hat d (List.mem_cons_of_mem _ hd)
  obtain ⟨hsets, hown0⟩ := atoms_of _ (rest_1_c_eq ▸ (show rest_1_c.before _ s = true from hrest))
  have hfit : Fit s := fun {y c} hc i hi => by
    obtain ⟨ha, rfl⟩ := Array.getElem?_eq_some_iff.mp hc
    have q := List.all_eq_true.mp ((Array.all_eq_true_iff_forall_mem.mp hF) _ (Array.getElem_mem ha)) i (List.mem_range.mpr hi)
    simpa [Array.getElem?_eq_getElem hi] using q
  obtain ⟨i0, ei0⟩ := is_v ha0
  obtain rfl : w0 = (.int i0) := Option.some.inj ei0
  obtain ⟨i1, ei1⟩ := is_v hg1
  obtain rfl : w1 = (.int i1) := Option.some.inj ei1
  have nz0 := not_v (Cond.before_iff.mp (hsets _ (List.mem_of_getElem? (i := 2) rfl)))
  obtain ⟨G, eG⟩ := is_v (Cond.before_iff.mp (hsets _ (List.mem_of_getElem? (i := 1) rfl)))
  have SG : Sta s s.heap "java/lang/String" "COMPACT_STRINGS" "Z" (.int G) := Sta.start eG (Or.inl (hsets _ (List.mem_of_getElem? (i := 0) rfl)))
  have nz : ¬ (G = (0 : Int32)) := gotF (Cond.eq_ints eG (Term.int_eval (0))) nz0
  obtain ⟨fm, efm, hfm⟩ := isR_v (Cond.before_iff.mp (hsets _ (List.mem_of_getElem? (i := 8) rfl)))
  have SF : Sta s s.heap "jdk/internal/util/Preconditions" "SIOOBE_FORMATTER" "Ljava/util/function/BiFunction;" fm := Sta.start efm (Or.inl (hsets _ (List.mem_of_getElem? (i := 7) rfl)))
  have CHs : CHv s [("java/lang/String", 7)] s.vm s.heap := CHv.start (own_EW hw) (fun p hp => by simp only [List.mem_cons, List.not_mem_nil, or_false] at hp; subst hp; exact hcalls.1 _ (List.mem_of_getElem? (i := 2) rfl)) (hsets _ (List.mem_of_getElem? (i := 2) rfl)) (hw _ (List.mem_of_getElem? (i := 22) rfl)) (hw _ (List.mem_of_getElem? (i := 9) rfl))
  obtain ⟨n, o, h1, h2, h3, _, L, rfl, ⟨rfl, N⟩, hq⟩ := rm_law l s _ hw tables_1 i0 i1 G fm s.heap s.heap.size (Nat.le_refl _) SG nz SF hfm (Old.start s) p e ha hc hk s m _ below hf ((Spec.applies_iff_loose hf).mp happ).1 ⟨rfl, State.Warmed39.refl s, rfl, CHs⟩ trivial
  refine ⟨n, _, h1, h2, h3, hpost _ _ _ _ _ _ ⟨Cond.after_iff.mpr rfl, Cond.after_iff.mpr (eq_i res_at (Term.int_eval (1)) rfl), trivial⟩ ⟨hq.1, hq.2.1, hq.2.2.1, (hq.2.2.2.sift fun y hy => Or.inr (N y hy)).mono (by decide) (by decide)⟩⟩
theorem main_1_1 : Claimed_1_1 := comes_1 fun _ _ _ _ _ _ h hF => ⟨h.1, hF⟩
theorem main_1_2 : Claimed_1_2 := comes_1 fun _ _ _ _ _ _ h hF => ⟨h.2.1, hF⟩
end Jvm.Pilot.@@N@@
namespace Jvm.Pilot.@@N@@
open Jvm Jvm.ClassFile Sem Op Lib Jvm.Free Jvm.Stand Jvm.Pilot.@@N@@.Jvm.D
/-! MADE BY PROGRAM (witnessworld.py) out of the Statement's table words and the real class files: 27 classes; the members and pool entries that the words name. The judged class is class 1, her method 1. -/
namespace start1
open Jvm.ClassFile
def u (s : String) : CpInfo := .utf8 (stringToUtf16 s)
/-- a pool by its gaps: so many unusable entries, then the entry; so many at the end -/
def gap : Nat → List CpInfo → List CpInfo
  | 0, r => r
  | n + 1, r => .unusable :: gap n r
def poolList (es : List (Nat × CpInfo)) (last : Nat) : List CpInfo := es.foldr (fun e r => gap e.1 (e.2 :: r)) (gap last [])
def pool (es : List (Nat × CpInfo)) (last : Nat) : Array CpInfo := ⟨poolList es last⟩
def fileOf (pool : Array CpInfo) (this : Nat) (attrs : Array Attribute := #[]) (ms : Array MethodInfo := #[]) (fl : Nat := 33) (sup : Nat := 0) (ifs : Array Nat := #[]) (fds : Array FieldInfo := #[]) : ClassFile where
  minorVersion := 0
  majorVersion := 65
  constantPool := pool
  accessFlags := fl
  thisClass := this
  superClass := sup
  interfaces := ifs
  fields := fds
  methods := ms
  attributes := attrs
def plain (name : String) (sup : Option ClassId) : Class where
  name := name
  kind := .ordinary
  loader := none
  accessFlags := 33
  super := sup
  interfaces := #[]
  cf := none
  fields := #[]
  methods := #[]
  instanceTypes := #[]
  staticTypes := #[]
  resolved := #[]
  callSites := []
  init := .initialized
  statics := none
  mirror := none

def pool0 : Array CpInfo := pool [(5, u "<init>"), (0, u "()V"), (1, .class_ 10), (1, u "java/lang/Object")] 113

def k0c0 : Code := { maxStack := 0, maxLocals := 1, code := object_method_1_code, exceptionTable := #[], attributes := #[] }
def k0m0 : Method := { name := "<init>", desc := "()V", sig := { parameters := [], returnType := none }, accessFlags := 1, code := some k0c0 }
/-- java/lang/Object -/
def k0 : Class := { plain "java/lang/Object" none with
  accessFlags := 33
  interfaces := #[]
  cf := some (fileOf pool0 8 #[] #[{ accessFlags := 1, nameIndex := 5, descriptorIndex := 6, attributes := #[] }] 33 0 #[] #[])
  fields := #[]
  methods := #[k0m0]
  instanceTypes := #[]
  staticTypes := #[]
  resolved := Array.replicate 124 none
  statics := none }

def pool1 : Array CpInfo := pool [(2, .class_ 4), (1, u "java/lang/Object"), (0, u "<init>"), (0, u "()V"), (0, .methodref 8 9), (0, .class_ 10), (0, .nameAndType 11 12), (0, u "com/example/holdfast/holdfast/redis/LockKeysLockKeyPinLaw"), (0, u "prefixChar"), (0, u "(I)C"), (0, .methodref 8 14), (0, .nameAndType 15 16), (0, u "str"), (0, u "(ICCC)Ljava/lang/String;"), (0, .class_ 18), (0, u "com/example/holdfast/holdfast/redis/LockKeys"), (0, .methodref 17 20), (0, .nameAndType 5 21), (0, u "(Ljava/lang/String;)V"), (0, .methodref 17 23), (0, .nameAndType 24 25), (0, u "lockKey"), (0, u "(Ljava/lang/String;)Ljava/lang/String;"), (0, .methodref 27 28), (0, .class_ 29), (0, .nameAndType 30 31), (0, u "java/lang/String"), (0, u "length"), (0, u "()I"), (0, .methodref 8 33), (0, .nameAndType 34 35), (0, u "at"), (0, u "(Ljava/lang/String;IIII[C[C)Z"), (0, .methodref 27 37), (0, .nameAndType 5 38), (0, u "([C)V"), (0, .methodref 27 40), (0, .nameAndType 41 12), (0, u "charAt"), (0, .methodref 8 43), (0, .nameAndType 44 45), (0, u "expected"), (0, u "(III[C[C)C"), (2, u "law"), (0, u "(II)Z")] 5

def k1m0 : Method := { name := "<init>", desc := "()V", sig := { parameters := [], returnType := none }, accessFlags := 1, code := none }
def k1c1 : Code := { maxStack := 7, maxLocals := 17, code := code, exceptionTable := #[], attributes := #[] }
def k1m1 : Method := { name := "law", desc := "(II)Z", sig := { parameters := [.int, .int], returnType := some .boolean }, accessFlags := 9, code := some k1c1 }
def k1c2 : Code := { maxStack := 2, maxLocals := 2, code := method_3_code, exceptionTable := #[], attributes := #[] }
def k1m2 : Method := { name := "prefixChar", desc := "(I)C", sig := { parameters := [.int], returnType := some .char }, accessFlags := 10, code := some k1c2 }
def k1c3 : Code := { maxStack := 6, maxLocals := 4, code := method_4_code, exceptionTable := #[], attributes := #[] }
def k1m3 : Method := { name := "str", desc := "(ICCC)Ljava/lang/String;", sig := { parameters := [.int, .char, .char, .char], returnType := some (.object "java/lang/String") }, accessFlags := 10, code := some k1c3 }
def k1c4 : Code := { maxStack := 6, maxLocals := 7, code := method_5_code, exceptionTable := #[], attributes := #[] }
def k1m4 : Method := { name := "at", desc := "(Ljava/lang/String;IIII[C[C)Z", sig := { parameters := [(.object "java/lang/String"), .int, .int, .int, .int, (.array .char), (.array .char)], returnType := some .boolean }, accessFlags := 10, code := some k1c4 }
def k1c5 : Code := { maxStack := 2, maxLocals := 6, code := method_6_code, exceptionTable := #[], attributes := #[] }
def k1m5 : Method := { name := "expected", desc := "(III[C[C)C", sig := { parameters := [.int, .int, .int, (.array .char), (.array .char)], returnType := some .char }, accessFlags := 10, code := some k1c5 }
/-- com/example/holdfast/holdfast/redis/LockKeysLockKeyPinLaw -/
def k1 : Class := { plain "com/example/holdfast/holdfast/redis/LockKeysLockKeyPinLaw" (some 0) with
  accessFlags := 49
  interfaces := #[]
  cf := some (fileOf pool1 8 #[] #[{ accessFlags := 1, nameIndex := 5, descriptorIndex := 6, attributes := #[] }, { accessFlags := 9, nameIndex := 48, descriptorIndex := 49, attributes := #[] }, { accessFlags := 10, nameIndex := 11, descriptorIndex := 12, attributes := #[] }, { accessFlags := 10, nameIndex := 15, descriptorIndex := 16, attributes := #[] }, { accessFlags := 10, nameIndex := 34, descriptorIndex := 35, attributes := #[] }, { accessFlags := 10, nameIndex := 44, descriptorIndex := 45, attributes := #[] }] 49 2 #[] #[])
  fields := #[]
  methods := #[k1m0, k1m1, k1m2, k1m3, k1m4, k1m5]
  instanceTypes := #[]
  staticTypes := #[]
  resolved := Array.replicate 55 none
  statics := none }

def pool2 : Array CpInfo := pool [(1, .class_ 2), (0, u "java/io/Serializable"), (0, .class_ 4), (0, u "java/lang/Object")] 2

/-- java/io/Serializable -/
def k2 : Class := { plain "java/io/Serializable" (some 0) with
  accessFlags := 1537
  interfaces := #[]
  cf := some (fileOf pool2 1 #[] #[] 1537 3 #[] #[])
  fields := #[]
  methods := #[]
  instanceTypes := #[]
  staticTypes := #[]
  resolved := Array.replicate 7 none
  statics := none }

def pool3 : Array CpInfo := pool [(1, .class_ 2), (0, u "java/lang/Comparable"), (0, .class_ 4), (0, u "java/lang/Object")] 7

/-- java/lang/Comparable -/
def k3 : Class := { plain "java/lang/Comparable" (some 0) with
  accessFlags := 1537
  interfaces := #[]
  cf := some (fileOf pool3 1 #[] #[] 1537 3 #[] #[])
  fields := #[]
  methods := #[]
  instanceTypes := #[]
  staticTypes := #[]
  resolved := Array.replicate 12 none
  statics := none }

def pool4 : Array CpInfo := pool [(2, .class_ 4), (1, u "java/lang/CharSequence"), (42, .class_ 48), (0, u "java/lang/CharSequence$1CodePointIterator"), (10, .class_ 60), (0, u "java/lang/CharSequence$1CharIterator"), (5, .class_ 67), (0, u "java/lang/Object")] 63

/-- java/lang/CharSequence -/
def k4 : Class := { plain "java/lang/CharSequence" (some 0) with
  accessFlags := 1537
  interfaces := #[]
  cf := some (fileOf pool4 2 #[.nestMembers #[47, 59]] #[] 1537 66 #[] #[])
  fields := #[]
  methods := #[]
  instanceTypes := #[]
  staticTypes := #[]
  resolved := Array.replicate 131 none
  statics := none }

def pool5 : Array CpInfo := pool [(1, .class_ 2), (0, u "java/lang/constant/Constable"), (0, .class_ 4), (0, u "java/lang/Object")] 6

/-- java/lang/constant/Constable -/
def k5 : Class := { plain "java/lang/constant/Constable" (some 0) with
  accessFlags := 1537
  interfaces := #[]
  cf := some (fileOf pool5 1 #[] #[] 1537 3 #[] #[])
  fields := #[]
  methods := #[]
  instanceTypes := #[]
  staticTypes := #[]
  resolved := Array.replicate 11 none
  statics := none }

def pool6 : Array CpInfo := pool [(1, .class_ 2), (0, u "java/lang/constant/ConstantDesc"), (0, .class_ 4), (0, u "java/lang/Object")] 32

/-- java/lang/constant/ConstantDesc -/
def k6 : Class := { plain "java/lang/constant/ConstantDesc" (some 0) with
  accessFlags := 1537
  interfaces := #[]
  cf := some (fileOf pool6 1 #[] #[] 1537 3 #[] #[])
  fields := #[]
  methods := #[]
  instanceTypes := #[]
  staticTypes := #[]
  resolved := Array.replicate 37 none
  statics := none }

def pool7 : Array CpInfo := pool [(1, .methodref 2 3), (0, .class_ 4), (0, .nameAndType 5 6), (0, u "java/lang/Object"), (0, u "<init>"), (0, u "()V"), (0, .string 8), (0, u ""), (0, .fieldref 10 11), (0, .class_ 12), (0, .nameAndType 13 14), (0, u "java/lang/String"), (0, u "value"), (0, u "[B"), (0, .fieldref 10 16), (0, .nameAndType 17 18), (0, u "coder"), (0, u "B"), (2, u "hash"), (0, u "I"), (2, u "hashIsZero"), (0, u "Z"), (0, .methodref 10 28), (0, .nameAndType 5 29), (0, u "([CIILjava/lang/Void;)V"), (8, .fieldref 10 39), (0, .nameAndType 40 26), (0, u "COMPACT_STRINGS"), (1, .class_ 44), (1, u "java/lang/StringUTF16"), (0, u "compress"), (1, .methodref 42 48), (0, .nameAndType 49 50), (0, u "coderFromArrayLen"), (0, u "([BI)B"), (3, .methodref 55 56), (0, .class_ 57), (0, .nameAndType 58 59), (0, u "java/util/Arrays"), (0, u "copyOfRange"), (0, u "([BII)[B"), (47, .class_ 109), (1, u "java/lang/StringLatin1"), (32, u "()Z"), (34, .methodref 42 178), (0, .nameAndType 45 179), (0, u "([CII)[B"), (13, .class_ 195), (1, u "java/lang/System"), (16, .methodref 193 213), (0, .nameAndType 214 215), (0, u "arraycopy"), (0, u "(Ljava/lang/Object;ILjava/lang/Object;II)V"), (118, u "()I"), (0, .methodref 10 336), (0, .nameAndType 17 337), (0, u "()B"), (2, u "()[B"), (22, u "([BI)C"), (27, u "(II)V"), (35, u "(I)C"), (61, .methodref 10 490), (0, .nameAndType 5 491), (0, u "(Ljava/lang/AbstractStringBuilder;Ljava/lang/Void;)V"), (0, .methodref 10 493), (0, .nameAndType 494 142), (0, u "isLatin1"), (0, .methodref 107 496), (0, .nameAndType 497 363), (0, u "charAt"), (3, u "checkIndex"), (3, .methodref 10 506), (0, .nameAndType 507 334), (0, u "length"), (24, u "getBytes"), (16, .methodref 550 506), (0, .class_ 551), (0, u "java/lang/AbstractStringBuilder"), (0, .methodref 550 553), (0, .nameAndType 554 340), (0, u "getValue"), (20, .class_ 576), (0, u "java/lang/CharSequence"), (22, u "CASE_INSENSITIVE_ORDER"), (0, u "Ljava/util/Comparator;"), (32, .methodref 10 634), (0, .nameAndType 635 636), (0, u "indexOf"), (0, u "(II)I"), (0, .methodref 107 638), (0, .nameAndType 635 639), (0, u "([BIII)I"), (52, u "isEmpty"), (72, u "(I)I"), (55, u "([BIB)V"), (188, u "([C)V"), (36, .methodref 550 493), (5, .fieldref 1054 1055), (0, .class_ 1056), (0, .nameAndType 1057 1058), (0, u "jdk/internal/util/Preconditions"), (0, u "SIOOBE_FORMATTER"), (0, u "Ljava/util/function/BiFunction;"), (0, .methodref 1054 1060), (0, .nameAndType 501 1061), (0, u "(IILjava/util/function/BiFunction;)I"), (39, u "serialPersistentFields"), (0, u "[Ljava/io/ObjectStreamField;"), (0, .class_ 1104), (0, u "java/lang/String$CaseInsensitiveComparator"), (1, .class_ 1107), (0, u "java/io/Serializable"), (0, .class_ 1109), (0, u "java/lang/Comparable"), (0, .class_ 1111), (0, u "java/lang/constant/Constable"), (0, .class_ 1113), (0, u "java/lang/constant/ConstantDesc"), (2, u "serialVersionUID"), (0, u "J"), (3, u "REPL"), (0, u "C"), (2, u "LATIN1"), (1, u "UTF16"), (105, u "(Ljava/lang/StringBuilder;)V")] 217

def k7m0 : Method := { name := "<init>", desc := "()V", sig := { parameters := [], returnType := none }, accessFlags := 1, code := none }
def k7c1 : Code := { maxStack := 5, maxLocals := 2, code := jdk_42_method_3_code, exceptionTable := #[], attributes := #[] }
def k7m1 : Method := { name := "<init>", desc := "([C)V", sig := { parameters := [(.array .char)], returnType := none }, accessFlags := 1, code := some k7c1 }
def k7c2 : Code := { maxStack := 3, maxLocals := 2, code := jdk_42_method_53_code, exceptionTable := #[], attributes := #[] }
def k7m2 : Method := { name := "<init>", desc := "(Ljava/lang/StringBuilder;)V", sig := { parameters := [(.object "java/lang/StringBuilder")], returnType := none }, accessFlags := 1, code := some k7c2 }
def k7c3 : Code := { maxStack := 2, maxLocals := 1, code := jdk_42_method_54_code, exceptionTable := #[], attributes := #[] }
def k7m3 : Method := { name := "length", desc := "()I", sig := { parameters := [], returnType := some .int }, accessFlags := 1, code := some k7c3 }
def k7c4 : Code := { maxStack := 1, maxLocals := 1, code := jdk_42_method_55_code, exceptionTable := #[], attributes := #[] }
def k7m4 : Method := { name := "isEmpty", desc := "()Z", sig := { parameters := [], returnType := some .boolean }, accessFlags := 1, code := some k7c4 }
def k7c5 : Code := { maxStack := 2, maxLocals := 2, code := jdk_42_method_56_code, exceptionTable := #[], attributes := #[] }
def k7m5 : Method := { name := "charAt", desc := "(I)C", sig := { parameters := [.int], returnType := some .char }, accessFlags := 1, code := some k7c5 }
def k7c6 : Code := { maxStack := 3, maxLocals := 2, code := jdk_42_method_79_code, exceptionTable := #[], attributes := #[] }
def k7m6 : Method := { name := "indexOf", desc := "(I)I", sig := { parameters := [.int], returnType := some .int }, accessFlags := 1, code := some k7c6 }
def k7c7 : Code := { maxStack := 4, maxLocals := 3, code := jdk_42_method_80_code, exceptionTable := #[], attributes := #[] }
def k7m7 : Method := { name := "indexOf", desc := "(II)I", sig := { parameters := [.int, .int], returnType := some .int }, accessFlags := 1, code := some k7c7 }
def k7c8 : Code := { maxStack := 5, maxLocals := 4, code := jdk_42_method_147_code, exceptionTable := #[], attributes := #[] }
def k7m8 : Method := { name := "getBytes", desc := "([BIB)V", sig := { parameters := [(.array .byte), .int, .byte], returnType := none }, accessFlags := 0, code := some k7c8 }
def k7c9 : Code := { maxStack := 4, maxLocals := 6, code := jdk_42_method_149_code, exceptionTable := #[], attributes := #[] }
def k7m9 : Method := { name := "<init>", desc := "([CIILjava/lang/Void;)V", sig := { parameters := [(.array .char), .int, .int, (.object "java/lang/Void")], returnType := none }, accessFlags := 2, code := some k7c9 }
def k7c10 : Code := { maxStack := 5, maxLocals := 5, code := jdk_42_method_150_code, exceptionTable := #[], attributes := #[] }
def k7m10 : Method := { name := "<init>", desc := "(Ljava/lang/AbstractStringBuilder;Ljava/lang/Void;)V", sig := { parameters := [(.object "java/lang/AbstractStringBuilder"), (.object "java/lang/Void")], returnType := none }, accessFlags := 0, code := some k7c10 }
def k7c11 : Code := { maxStack := 1, maxLocals := 1, code := jdk_42_method_152_code, exceptionTable := #[], attributes := #[] }
def k7m11 : Method := { name := "coder", desc := "()B", sig := { parameters := [], returnType := some .byte }, accessFlags := 0, code := some k7c11 }
def k7c12 : Code := { maxStack := 1, maxLocals := 1, code := jdk_42_method_154_code, exceptionTable := #[], attributes := #[] }
def k7m12 : Method := { name := "isLatin1", desc := "()Z", sig := { parameters := [], returnType := some .boolean }, accessFlags := 0, code := some k7c12 }
def k7c13 : Code := { maxStack := 3, maxLocals := 2, code := jdk_42_method_155_code, exceptionTable := #[], attributes := #[] }
def k7m13 : Method := { name := "checkIndex", desc := "(II)V", sig := { parameters := [.int, .int], returnType := none }, accessFlags := 8, code := some k7c13 }
/-- java/lang/String -/
def k7 : Class := { plain "java/lang/String" (some 0) with
  accessFlags := 49
  interfaces := #[2, 3, 4, 5, 6]
  cf := some (fileOf pool7 10 #[.nestMembers #[1103]] #[{ accessFlags := 1, nameIndex := 5, descriptorIndex := 6, attributes := #[] }, { accessFlags := 1, nameIndex := 5, descriptorIndex := 1010, attributes := #[] }, { accessFlags := 1, nameIndex := 5, descriptorIndex := 1233, attributes := #[] }, { accessFlags := 1, nameIndex := 507, descriptorIndex := 334, attributes := #[] }, { accessFlags := 1, nameIndex := 692, descriptorIndex := 142, attributes := #[] }, { accessFlags := 1, nameIndex := 497, descriptorIndex := 427, attributes := #[] }, { accessFlags := 1, nameIndex := 635, descriptorIndex := 765, attributes := #[] }, { accessFlags := 1, nameIndex := 635, descriptorIndex := 636, attributes := #[] }, { accessFlags := 0, nameIndex := 532, descriptorIndex := 821, attributes := #[] }, { accessFlags := 2, nameIndex := 5, descriptorIndex := 29, attributes := #[] }, { accessFlags := 0, nameIndex := 5, descriptorIndex := 491, attributes := #[] }, { accessFlags := 0, nameIndex := 17, descriptorIndex := 337, attributes := #[] }, { accessFlags := 0, nameIndex := 494, descriptorIndex := 142, attributes := #[] }, { accessFlags := 8, nameIndex := 501, descriptorIndex := 391, attributes := #[] }] 49 2 #[1106, 1108, 575, 1110, 1112] #[{ accessFlags := 18, nameIndex := 13, descriptorIndex := 14, attributes := #[] }, { accessFlags := 18, nameIndex := 17, descriptorIndex := 18, attributes := #[] }, { accessFlags := 2, nameIndex := 21, descriptorIndex := 22, attributes := #[] }, { accessFlags := 2, nameIndex := 25, descriptorIndex := 26, attributes := #[] }, { accessFlags := 26, nameIndex := 1116, descriptorIndex := 1117, attributes := #[] }, { accessFlags := 24, nameIndex := 40, descriptorIndex := 26, attributes := #[] }, { accessFlags := 26, nameIndex := 1101, descriptorIndex := 1102, attributes := #[] }, { accessFlags := 26, nameIndex := 1121, descriptorIndex := 1122, attributes := #[] }, { accessFlags := 25, nameIndex := 599, descriptorIndex := 600, attributes := #[] }, { accessFlags := 24, nameIndex := 1125, descriptorIndex := 18, attributes := #[] }, { accessFlags := 24, nameIndex := 1127, descriptorIndex := 18, attributes := #[] }])
  fields := #[{ name := "value", type := (.array .byte), accessFlags := 18, slot := 0, constantValue := 0 }, { name := "coder", type := .byte, accessFlags := 18, slot := 1, constantValue := 0 }, { name := "hash", type := .int, accessFlags := 2, slot := 2, constantValue := 0 }, { name := "hashIsZero", type := .boolean, accessFlags := 2, slot := 3, constantValue := 0 }, { name := "serialVersionUID", type := .long, accessFlags := 26, slot := 0, constantValue := 0 }, { name := "COMPACT_STRINGS", type := .boolean, accessFlags := 24, slot := 1, constantValue := 0 }, { name := "serialPersistentFields", type := (.array (.object "java/io/ObjectStreamField")), accessFlags := 26, slot := 2, constantValue := 0 }, { name := "REPL", type := .char, accessFlags := 26, slot := 3, constantValue := 0 }, { name := "CASE_INSENSITIVE_ORDER", type := (.object "java/util/Comparator"), accessFlags := 25, slot := 4, constantValue := 0 }, { name := "LATIN1", type := .byte, accessFlags := 24, slot := 5, constantValue := 0 }, { name := "UTF16", type := .byte, accessFlags := 24, slot := 6, constantValue := 0 }]
  methods := #[k7m0, k7m1, k7m2, k7m3, k7m4, k7m5, k7m6, k7m7, k7m8, k7m9, k7m10, k7m11, k7m12, k7m13]
  instanceTypes := #[(.array .byte), .byte, .int, .boolean]
  staticTypes := #[.long, .boolean, (.array (.object "java/io/ObjectStreamField")), .char, (.object "java/util/Comparator"), .byte, .byte]
  resolved := Array.replicate 1451 none
  statics := some 0 }

def pool8 : Array CpInfo := pool [(6, .class_ 8), (1, u "java/lang/Object"), (0, u "<init>"), (0, u "()V"), (1, .class_ 14), (1, u "java/lang/StringUTF16"), (31, u "$assertionsDisabled"), (0, u "Z"), (13, u "HI_BYTE_SHIFT"), (0, u "I"), (2, u "LO_BYTE_SHIFT"), (49, .methodref 12 116), (0, .nameAndType 117 118), (0, u "compress"), (0, u "([CI[BII)I"), (3, u "([CII)[B"), (138, u "coderFromArrayLen"), (0, u "([BI)B"), (106, .class_ 371), (1, u "java/lang/StringUTF16$LinesSpliterator"), (58, u "MAX_LENGTH"), (196, .class_ 628), (0, u "java/lang/StringUTF16$CodePointsSpliterator"), (0, .class_ 630), (0, u "java/lang/StringUTF16$CharsSpliterator")] 4

def k8m0 : Method := { name := "<init>", desc := "()V", sig := { parameters := [], returnType := none }, accessFlags := 0, code := none }
def k8c1 : Code := { maxStack := 2, maxLocals := 2, code := jdk_52_method_15_code, exceptionTable := #[], attributes := #[] }
def k8m1 : Method := { name := "coderFromArrayLen", desc := "([BI)B", sig := { parameters := [(.array .byte), .int], returnType := some .byte }, accessFlags := 8, code := some k8c1 }
def k8c2 : Code := { maxStack := 5, maxLocals := 6, code := jdk_52_method_16_code, exceptionTable := #[], attributes := #[] }
def k8m2 : Method := { name := "compress", desc := "([CII)[B", sig := { parameters := [(.array .char), .int, .int], returnType := some (.array .byte) }, accessFlags := 9, code := some k8c2 }
def k8c3 : Code := { maxStack := 3, maxLocals := 7, code := jdk_52_method_21_code, exceptionTable := #[], attributes := #[] }
def k8m3 : Method := { name := "compress", desc := "([CI[BII)I", sig := { parameters := [(.array .char), .int, (.array .byte), .int, .int], returnType := some .int }, accessFlags := 9, code := some k8c3 }
/-- java/lang/StringUTF16 -/
def k8 : Class := { plain "java/lang/StringUTF16" (some 0) with
  accessFlags := 48
  interfaces := #[]
  cf := some (fileOf pool8 12 #[.nestMembers #[627, 629, 369]] #[{ accessFlags := 0, nameIndex := 9, descriptorIndex := 10, attributes := #[] }, { accessFlags := 8, nameIndex := 261, descriptorIndex := 262, attributes := #[] }, { accessFlags := 9, nameIndex := 117, descriptorIndex := 122, attributes := #[] }, { accessFlags := 9, nameIndex := 117, descriptorIndex := 118, attributes := #[] }] 48 6 #[] #[{ accessFlags := 26, nameIndex := 61, descriptorIndex := 62, attributes := #[] }, { accessFlags := 26, nameIndex := 65, descriptorIndex := 62, attributes := #[] }, { accessFlags := 24, nameIndex := 430, descriptorIndex := 62, attributes := #[] }, { accessFlags := 4120, nameIndex := 46, descriptorIndex := 47, attributes := #[] }])
  fields := #[{ name := "HI_BYTE_SHIFT", type := .int, accessFlags := 26, slot := 0, constantValue := 0 }, { name := "LO_BYTE_SHIFT", type := .int, accessFlags := 26, slot := 1, constantValue := 0 }, { name := "MAX_LENGTH", type := .int, accessFlags := 24, slot := 2, constantValue := 0 }, { name := "$assertionsDisabled", type := .boolean, accessFlags := 4120, slot := 3, constantValue := 0 }]
  methods := #[k8m0, k8m1, k8m2, k8m3]
  instanceTypes := #[]
  staticTypes := #[.int, .int, .int, .boolean]
  resolved := Array.replicate 635 none
  statics := none }

def pool9 : Array CpInfo := pool [(1, .methodref 2 3), (0, .class_ 4), (0, .nameAndType 5 6), (0, u "java/lang/Object"), (0, u "<init>"), (0, u "()V"), (0, .string 8), (0, u "prefix"), (0, .methodref 10 11), (0, .class_ 12), (0, .nameAndType 13 14), (0, u "java/util/Objects"), (0, u "requireNonNull"), (0, u "(Ljava/lang/Object;Ljava/lang/String;)Ljava/lang/Object;"), (0, .methodref 16 17), (0, .class_ 18), (0, .nameAndType 19 20), (0, u "java/lang/String"), (0, u "indexOf"), (0, u "(I)I"), (2, .class_ 24), (0, u "java/lang/StringBuilder"), (0, .methodref 23 3), (2, .methodref 23 29), (0, .nameAndType 30 31), (0, u "append"), (0, u "(Ljava/lang/String;)Ljava/lang/StringBuilder;"), (0, .methodref 23 33), (0, .nameAndType 34 35), (0, u "toString"), (0, u "()Ljava/lang/String;"), (2, u "(Ljava/lang/String;)V"), (0, .fieldref 40 41), (0, .class_ 42), (0, .nameAndType 43 44), (0, u "com/example/holdfast/holdfast/redis/LockKeys"), (0, u "_prefix"), (0, u "Ljava/lang/String;"), (0, .string 46), (0, u "name"), (0, .methodref 16 48), (0, .nameAndType 49 50), (0, u "isEmpty"), (0, u "()Z"), (2, .methodref 16 54), (0, .nameAndType 55 56), (0, u "charAt"), (0, u "(I)C"), (2, .methodref 23 60), (0, .nameAndType 30 61), (0, u "(C)Ljava/lang/StringBuilder;"), (2, u "lockKey"), (0, u "(Ljava/lang/String;)Ljava/lang/String;"), (14, u "DEFAULT_PREFIX"), (3, u "TOKEN_SUFFIX"), (0, u "QUEUE_SUFFIX"), (0, u "DEADLINES_SUFFIX"), (0, u "WRITE_SUFFIX"), (0, u "READERS_SUFFIX"), (0, u "WAITING_WRITERS_SUFFIX"), (0, u "WAITING_READERS_SUFFIX")] 12

def k9c0 : Code := { maxStack := 4, maxLocals := 2, code := prog_7_method_1_code, exceptionTable := #[], attributes := #[] }
def k9m0 : Method := { name := "<init>", desc := "(Ljava/lang/String;)V", sig := { parameters := [(.object "java/lang/String")], returnType := none }, accessFlags := 1, code := some k9c0 }
def k9c1 : Code := { maxStack := 4, maxLocals := 2, code := prog_7_method_2_code, exceptionTable := #[], attributes := #[] }
def k9m1 : Method := { name := "lockKey", desc := "(Ljava/lang/String;)Ljava/lang/String;", sig := { parameters := [(.object "java/lang/String")], returnType := some (.object "java/lang/String") }, accessFlags := 1, code := some k9c1 }
/-- com/example/holdfast/holdfast/redis/LockKeys -/
def k9 : Class := { plain "com/example/holdfast/holdfast/redis/LockKeys" (some 0) with
  accessFlags := 49
  interfaces := #[]
  cf := some (fileOf pool9 40 #[] #[{ accessFlags := 1, nameIndex := 5, descriptorIndex := 38, attributes := #[] }, { accessFlags := 1, nameIndex := 64, descriptorIndex := 65, attributes := #[] }] 49 2 #[] #[{ accessFlags := 25, nameIndex := 80, descriptorIndex := 44, attributes := #[] }, { accessFlags := 26, nameIndex := 84, descriptorIndex := 44, attributes := #[] }, { accessFlags := 26, nameIndex := 85, descriptorIndex := 44, attributes := #[] }, { accessFlags := 26, nameIndex := 86, descriptorIndex := 44, attributes := #[] }, { accessFlags := 26, nameIndex := 87, descriptorIndex := 44, attributes := #[] }, { accessFlags := 26, nameIndex := 88, descriptorIndex := 44, attributes := #[] }, { accessFlags := 26, nameIndex := 89, descriptorIndex := 44, attributes := #[] }, { accessFlags := 26, nameIndex := 90, descriptorIndex := 44, attributes := #[] }, { accessFlags := 18, nameIndex := 43, descriptorIndex := 44, attributes := #[] }])
  fields := #[{ name := "DEFAULT_PREFIX", type := (.object "java/lang/String"), accessFlags := 25, slot := 0, constantValue := 0 }, { name := "TOKEN_SUFFIX", type := (.object "java/lang/String"), accessFlags := 26, slot := 1, constantValue := 0 }, { name := "QUEUE_SUFFIX", type := (.object "java/lang/String"), accessFlags := 26, slot := 2, constantValue := 0 }, { name := "DEADLINES_SUFFIX", type := (.object "java/lang/String"), accessFlags := 26, slot := 3, constantValue := 0 }, { name := "WRITE_SUFFIX", type := (.object "java/lang/String"), accessFlags := 26, slot := 4, constantValue := 0 }, { name := "READERS_SUFFIX", type := (.object "java/lang/String"), accessFlags := 26, slot := 5, constantValue := 0 }, { name := "WAITING_WRITERS_SUFFIX", type := (.object "java/lang/String"), accessFlags := 26, slot := 6, constantValue := 0 }, { name := "WAITING_READERS_SUFFIX", type := (.object "java/lang/String"), accessFlags := 26, slot := 7, constantValue := 0 }, { name := "_prefix", type := (.object "java/lang/String"), accessFlags := 18, slot := 0, constantValue := 0 }]
  methods := #[k9m0, k9m1]
  instanceTypes := #[(.object "java/lang/String")]
  staticTypes := #[(.object "java/lang/String"), (.object "java/lang/String"), (.object "java/lang/String"), (.object "java/lang/String"), (.object "java/lang/String"), (.object "java/lang/String"), (.object "java/lang/String"), (.object "java/lang/String")]
  resolved := Array.replicate 103 none
  statics := none }

def pool10 : Array CpInfo := pool [(2, .class_ 4), (1, u "java/lang/Object"), (0, u "<init>"), (0, u "()V"), (35, .class_ 44), (1, u "java/util/Objects"), (0, u "requireNonNull"), (48, u "(Ljava/lang/Object;Ljava/lang/String;)Ljava/lang/Object;")] 89

def k10m0 : Method := { name := "<init>", desc := "()V", sig := { parameters := [], returnType := none }, accessFlags := 2, code := none }
def k10c1 : Code := { maxStack := 3, maxLocals := 2, code := jdk_31_method_11_code, exceptionTable := #[], attributes := #[] }
def k10m1 : Method := { name := "requireNonNull", desc := "(Ljava/lang/Object;Ljava/lang/String;)Ljava/lang/Object;", sig := { parameters := [(.object "java/lang/Object"), (.object "java/lang/String")], returnType := some (.object "java/lang/Object") }, accessFlags := 9, code := some k10c1 }
/-- java/util/Objects -/
def k10 : Class := { plain "java/util/Objects" (some 0) with
  accessFlags := 49
  interfaces := #[]
  cf := some (fileOf pool10 42 #[] #[{ accessFlags := 2, nameIndex := 5, descriptorIndex := 6, attributes := #[] }, { accessFlags := 9, nameIndex := 45, descriptorIndex := 94, attributes := #[] }] 49 2 #[] #[])
  fields := #[]
  methods := #[k10m0, k10m1]
  instanceTypes := #[]
  staticTypes := #[]
  resolved := Array.replicate 184 none
  statics := none }

def pool11 : Array CpInfo := pool [(1, .class_ 2), (0, u "java/lang/String"), (1, .class_ 6), (1, u "java/lang/Object"), (0, u "<init>"), (0, u "()V"), (0, .methodref 1 10), (0, .nameAndType 11 12), (0, u "checkIndex"), (0, u "(II)V"), (1, .class_ 16), (1, u "java/lang/StringLatin1"), (21, .methodref 39 40), (0, .class_ 41), (0, .nameAndType 42 43), (0, u "java/lang/Math"), (0, u "min"), (0, u "(II)I"), (9, u "([BI)C"), (34, .methodref 14 89), (0, .nameAndType 90 91), (0, u "canEncode"), (0, u "(I)Z"), (0, .methodref 39 93), (0, .nameAndType 94 43), (0, u "max"), (0, .methodref 14 96), (0, .nameAndType 97 98), (0, u "indexOfChar"), (0, u "([BIII)I"), (2, u "indexOf"), (3, u "(C)Z"), (15, u "$assertionsDisabled"), (0, u "Z"), (98, .class_ 223), (1, u "java/lang/StringLatin1$LinesSpliterator"), (28, u "charAt"), (137, .class_ 391), (0, u "java/lang/StringLatin1$CharsSpliterator")] 3

def k11m0 : Method := { name := "<init>", desc := "()V", sig := { parameters := [], returnType := none }, accessFlags := 0, code := none }
def k11c1 : Code := { maxStack := 2, maxLocals := 2, code := jdk_43_method_2_code, exceptionTable := #[], attributes := #[] }
def k11m1 : Method := { name := "charAt", desc := "([BI)C", sig := { parameters := [(.array .byte), .int], returnType := some .char }, accessFlags := 9, code := some k11c1 }
def k11c2 : Code := { maxStack := 2, maxLocals := 1, code := jdk_43_method_3_code, exceptionTable := #[], attributes := #[] }
def k11m2 : Method := { name := "canEncode", desc := "(C)Z", sig := { parameters := [.char], returnType := some .boolean }, accessFlags := 9, code := some k11c2 }
def k11c3 : Code := { maxStack := 2, maxLocals := 1, code := jdk_43_method_4_code, exceptionTable := #[], attributes := #[] }
def k11m3 : Method := { name := "canEncode", desc := "(I)Z", sig := { parameters := [.int], returnType := some .boolean }, accessFlags := 9, code := some k11c3 }
def k11c4 : Code := { maxStack := 4, maxLocals := 4, code := jdk_43_method_22_code, exceptionTable := #[], attributes := #[] }
def k11m4 : Method := { name := "indexOf", desc := "([BIII)I", sig := { parameters := [(.array .byte), .int, .int, .int], returnType := some .int }, accessFlags := 9, code := some k11c4 }
def k11c5 : Code := { maxStack := 2, maxLocals := 6, code := jdk_43_method_23_code, exceptionTable := #[], attributes := #[] }
def k11m5 : Method := { name := "indexOfChar", desc := "([BIII)I", sig := { parameters := [(.array .byte), .int, .int, .int], returnType := some .int }, accessFlags := 10, code := some k11c5 }
/-- java/lang/StringLatin1 -/
def k11 : Class := { plain "java/lang/StringLatin1" (some 0) with
  accessFlags := 48
  interfaces := #[]
  cf := some (fileOf pool11 14 #[.nestMembers #[390, 221]] #[{ accessFlags := 0, nameIndex := 7, descriptorIndex := 8, attributes := #[] }, { accessFlags := 9, nameIndex := 252, descriptorIndex := 53, attributes := #[] }, { accessFlags := 9, nameIndex := 90, descriptorIndex := 105, attributes := #[] }, { accessFlags := 9, nameIndex := 90, descriptorIndex := 91, attributes := #[] }, { accessFlags := 9, nameIndex := 101, descriptorIndex := 98, attributes := #[] }, { accessFlags := 10, nameIndex := 97, descriptorIndex := 98, attributes := #[] }] 48 4 #[] #[{ accessFlags := 4120, nameIndex := 121, descriptorIndex := 122, attributes := #[] }])
  fields := #[{ name := "$assertionsDisabled", type := .boolean, accessFlags := 4120, slot := 0, constantValue := 0 }]
  methods := #[k11m0, k11m1, k11m2, k11m3, k11m4, k11m5]
  instanceTypes := #[]
  staticTypes := #[.boolean]
  resolved := Array.replicate 395 none
  statics := none }

def pool12 : Array CpInfo := pool [(1, .class_ 2), (0, u "java/lang/Math"), (1, .class_ 6), (1, u "java/lang/Object"), (0, u "<init>"), (0, u "()V"), (89, .class_ 100), (1, u "java/lang/Math$RandomNumberGeneratorHolder"), (71, u "negativeZeroFloatBits"), (0, u "J"), (2, u "negativeZeroDoubleBits"), (21, u "max"), (2, u "min"), (43, u "$assertionsDisabled"), (0, u "Z"), (88, u "(II)I"), (2, u "twoToTheDoubleScaleDown"), (0, u "D"), (4, u "twoToTheDoubleScaleUp"), (9, u "E"), (3, u "PI"), (2, u "TAU"), (2, u "DEGREES_TO_RADIANS"), (0, u "RADIANS_TO_DEGREES")] 94

def k12m0 : Method := { name := "<init>", desc := "()V", sig := { parameters := [], returnType := none }, accessFlags := 2, code := none }
def k12c1 : Code := { maxStack := 2, maxLocals := 2, code := jdk_29_method_65_code, exceptionTable := #[], attributes := #[] }
def k12m1 : Method := { name := "max", desc := "(II)I", sig := { parameters := [.int, .int], returnType := some .int }, accessFlags := 9, code := some k12c1 }
def k12c2 : Code := { maxStack := 2, maxLocals := 2, code := jdk_29_method_69_code, exceptionTable := #[], attributes := #[] }
def k12m2 : Method := { name := "min", desc := "(II)I", sig := { parameters := [.int, .int], returnType := some .int }, accessFlags := 9, code := some k12c2 }
/-- java/lang/Math -/
def k12 : Class := { plain "java/lang/Math" (some 0) with
  accessFlags := 49
  interfaces := #[]
  cf := some (fileOf pool12 1 #[.nestMembers #[98]] #[{ accessFlags := 2, nameIndex := 7, descriptorIndex := 8, attributes := #[] }, { accessFlags := 9, nameIndex := 198, descriptorIndex := 335, attributes := #[] }, { accessFlags := 9, nameIndex := 201, descriptorIndex := 335, attributes := #[] }] 49 4 #[] #[{ accessFlags := 25, nameIndex := 354, descriptorIndex := 339, attributes := #[] }, { accessFlags := 25, nameIndex := 358, descriptorIndex := 339, attributes := #[] }, { accessFlags := 25, nameIndex := 361, descriptorIndex := 339, attributes := #[] }, { accessFlags := 26, nameIndex := 364, descriptorIndex := 339, attributes := #[] }, { accessFlags := 26, nameIndex := 365, descriptorIndex := 339, attributes := #[] }, { accessFlags := 26, nameIndex := 172, descriptorIndex := 173, attributes := #[] }, { accessFlags := 26, nameIndex := 176, descriptorIndex := 173, attributes := #[] }, { accessFlags := 8, nameIndex := 344, descriptorIndex := 339, attributes := #[] }, { accessFlags := 8, nameIndex := 338, descriptorIndex := 339, attributes := #[] }, { accessFlags := 4120, nameIndex := 245, descriptorIndex := 246, attributes := #[] }])
  fields := #[{ name := "E", type := .double, accessFlags := 25, slot := 0, constantValue := 0 }, { name := "PI", type := .double, accessFlags := 25, slot := 1, constantValue := 0 }, { name := "TAU", type := .double, accessFlags := 25, slot := 2, constantValue := 0 }, { name := "DEGREES_TO_RADIANS", type := .double, accessFlags := 26, slot := 3, constantValue := 0 }, { name := "RADIANS_TO_DEGREES", type := .double, accessFlags := 26, slot := 4, constantValue := 0 }, { name := "negativeZeroFloatBits", type := .long, accessFlags := 26, slot := 5, constantValue := 0 }, { name := "negativeZeroDoubleBits", type := .long, accessFlags := 26, slot := 6, constantValue := 0 }, { name := "twoToTheDoubleScaleUp", type := .double, accessFlags := 8, slot := 7, constantValue := 0 }, { name := "twoToTheDoubleScaleDown", type := .double, accessFlags := 8, slot := 8, constantValue := 0 }, { name := "$assertionsDisabled", type := .boolean, accessFlags := 4120, slot := 9, constantValue := 0 }]
  methods := #[k12m0, k12m1, k12m2]
  instanceTypes := #[]
  staticTypes := #[.double, .double, .double, .double, .double, .long, .long, .double, .double, .boolean]
  resolved := Array.replicate 460 none
  statics := none }

def pool13 : Array CpInfo := pool [(2, .class_ 4), (1, u "java/lang/Object"), (0, u "<init>"), (0, u "()V"), (17, .class_ 26), (1, u "jdk/internal/util/Preconditions"), (6, u "checkIndex"), (21, .class_ 56), (0, u "jdk/internal/util/Preconditions$4"), (57, .class_ 115), (0, u "jdk/internal/util/Preconditions$1"), (7, u "SIOOBE_FORMATTER"), (0, u "Ljava/util/function/BiFunction;"), (0, .class_ 126), (0, u "jdk/internal/util/Preconditions$2"), (3, u "AIOOBE_FORMATTER"), (0, .class_ 132), (0, u "jdk/internal/util/Preconditions$3"), (3, u "IOOBE_FORMATTER"), (41, u "(IILjava/util/function/BiFunction;)I")] 15

def k13m0 : Method := { name := "<init>", desc := "()V", sig := { parameters := [], returnType := none }, accessFlags := 1, code := none }
def k13c1 : Code := { maxStack := 3, maxLocals := 3, code := jdk_41_method_11_code, exceptionTable := #[], attributes := #[] }
def k13m1 : Method := { name := "checkIndex", desc := "(IILjava/util/function/BiFunction;)I", sig := { parameters := [.int, .int, (.object "java/util/function/BiFunction")], returnType := some .int }, accessFlags := 9, code := some k13c1 }
/-- jdk/internal/util/Preconditions -/
def k13 : Class := { plain "jdk/internal/util/Preconditions" (some 0) with
  accessFlags := 33
  interfaces := #[]
  cf := some (fileOf pool13 24 #[.nestMembers #[55, 131, 125, 114]] #[{ accessFlags := 1, nameIndex := 5, descriptorIndex := 6, attributes := #[] }, { accessFlags := 9, nameIndex := 33, descriptorIndex := 178, attributes := #[] }] 33 2 #[] #[{ accessFlags := 25, nameIndex := 123, descriptorIndex := 124, attributes := #[] }, { accessFlags := 25, nameIndex := 130, descriptorIndex := 124, attributes := #[] }, { accessFlags := 25, nameIndex := 136, descriptorIndex := 124, attributes := #[] }])
  fields := #[{ name := "SIOOBE_FORMATTER", type := (.object "java/util/function/BiFunction"), accessFlags := 25, slot := 0, constantValue := 0 }, { name := "AIOOBE_FORMATTER", type := (.object "java/util/function/BiFunction"), accessFlags := 25, slot := 1, constantValue := 0 }, { name := "IOOBE_FORMATTER", type := (.object "java/util/function/BiFunction"), accessFlags := 25, slot := 2, constantValue := 0 }]
  methods := #[k13m0, k13m1]
  instanceTypes := #[]
  staticTypes := #[(.object "java/util/function/BiFunction"), (.object "java/util/function/BiFunction"), (.object "java/util/function/BiFunction")]
  resolved := Array.replicate 194 none
  statics := some 1 }

def pool14 : Array CpInfo := pool [(1, .class_ 2), (0, u "java/lang/Appendable"), (0, .class_ 4), (0, u "java/lang/Object")] 9

/-- java/lang/Appendable -/
def k14 : Class := { plain "java/lang/Appendable" (some 0) with
  accessFlags := 1537
  interfaces := #[]
  cf := some (fileOf pool14 1 #[] #[] 1537 3 #[] #[])
  fields := #[]
  methods := #[]
  instanceTypes := #[]
  staticTypes := #[]
  resolved := Array.replicate 14 none
  statics := none }

def pool15 : Array CpInfo := pool [(1, .class_ 2), (0, u "java/lang/String"), (0, .methodref 4 5), (0, .class_ 6), (0, .nameAndType 7 8), (0, u "java/lang/Object"), (0, u "<init>"), (0, u "()V"), (1, .class_ 12), (1, u "java/lang/AbstractStringBuilder"), (0, u "EMPTYVALUE"), (0, u "[B"), (0, .fieldref 10 16), (0, .nameAndType 17 14), (0, u "value"), (0, .fieldref 1 19), (0, .nameAndType 20 21), (0, u "COMPACT_STRINGS"), (0, u "Z"), (0, .fieldref 10 23), (0, .nameAndType 24 25), (0, u "coder"), (0, u "B"), (6, .methodref 1 33), (0, .nameAndType 34 35), (0, u "length"), (0, u "()I"), (4, .methodref 1 41), (0, .nameAndType 24 42), (0, u "()B"), (2, u "append"), (0, u "(Ljava/lang/String;)Ljava/lang/AbstractStringBuilder;"), (1, .class_ 49), (0, u "java/lang/CharSequence"), (19, u "(Ljava/lang/String;)V"), (5, u "maybeLatin1"), (3, .fieldref 10 80), (0, .nameAndType 81 82), (0, u "count"), (0, u "I"), (0, .methodref 10 84), (0, .nameAndType 85 86), (0, u "isLatin1"), (0, u "()Z"), (1, .class_ 90), (1, u "java/lang/StringLatin1"), (9, .methodref 10 101), (0, .nameAndType 102 103), (0, u "ensureCapacityInternal"), (0, u "(I)V"), (87, .methodref 88 192), (0, .nameAndType 193 194), (0, u "canEncode"), (0, u "(C)Z"), (13, .methodref 10 209), (0, .nameAndType 210 211), (0, u "putStringAt"), (0, u "(ILjava/lang/String;)V"), (5, u "inflateIfNeededFor"), (2, .nameAndType 221 222), (0, u "getBytes"), (0, u "([BIB)V"), (69, u "(C)Ljava/lang/AbstractStringBuilder;"), (104, .methodref 10 398), (0, .nameAndType 217 69), (0, .methodref 1 220), (3, u "()[B"), (40, .class_ 445), (0, u "java/lang/Appendable"), (106, u "getValue")] 56

def k15m0 : Method := { name := "<init>", desc := "()V", sig := { parameters := [], returnType := none }, accessFlags := 0, code := none }
def k15c1 : Code := { maxStack := 2, maxLocals := 2, code := jdk_68_method_2_code, exceptionTable := #[], attributes := #[] }
def k15m1 : Method := { name := "<init>", desc := "(I)V", sig := { parameters := [.int], returnType := none }, accessFlags := 0, code := some k15c1 }
def k15c2 : Code := { maxStack := 1, maxLocals := 1, code := jdk_68_method_6_code, exceptionTable := #[], attributes := #[] }
def k15m2 : Method := { name := "length", desc := "()I", sig := { parameters := [], returnType := some .int }, accessFlags := 1, code := some k15c2 }
def k15c3 : Code := { maxStack := 4, maxLocals := 3, code := jdk_68_method_9_code, exceptionTable := #[], attributes := #[] }
def k15m3 : Method := { name := "ensureCapacityInternal", desc := "(I)V", sig := { parameters := [.int], returnType := none }, accessFlags := 2, code := some k15c3 }
def k15c4 : Code := { maxStack := 3, maxLocals := 3, code := jdk_68_method_22_code, exceptionTable := #[], attributes := #[] }
def k15m4 : Method := { name := "append", desc := "(Ljava/lang/String;)Ljava/lang/AbstractStringBuilder;", sig := { parameters := [(.object "java/lang/String")], returnType := some (.object "java/lang/AbstractStringBuilder") }, accessFlags := 1, code := some k15c4 }
def k15c5 : Code := { maxStack := 5, maxLocals := 2, code := jdk_68_method_31_code, exceptionTable := #[], attributes := #[] }
def k15m5 : Method := { name := "append", desc := "(C)Ljava/lang/AbstractStringBuilder;", sig := { parameters := [.char], returnType := some (.object "java/lang/AbstractStringBuilder") }, accessFlags := 1, code := some k15c5 }
def k15c6 : Code := { maxStack := 1, maxLocals := 1, code := jdk_68_method_64_code, exceptionTable := #[], attributes := #[] }
def k15m6 : Method := { name := "getValue", desc := "()[B", sig := { parameters := [], returnType := some (.array .byte) }, accessFlags := 16, code := some k15c6 }
def k15c7 : Code := { maxStack := 1, maxLocals := 1, code := jdk_68_method_68_code, exceptionTable := #[], attributes := #[] }
def k15m7 : Method := { name := "isLatin1", desc := "()Z", sig := { parameters := [], returnType := some .boolean }, accessFlags := 16, code := some k15c7 }
def k15c8 : Code := { maxStack := 2, maxLocals := 2, code := jdk_68_method_71_code, exceptionTable := #[], attributes := #[] }
def k15m8 : Method := { name := "inflateIfNeededFor", desc := "(Ljava/lang/String;)V", sig := { parameters := [(.object "java/lang/String")], returnType := none }, accessFlags := 2, code := some k15c8 }
def k15c9 : Code := { maxStack := 4, maxLocals := 3, code := jdk_68_method_73_code, exceptionTable := #[], attributes := #[] }
def k15m9 : Method := { name := "putStringAt", desc := "(ILjava/lang/String;)V", sig := { parameters := [.int, (.object "java/lang/String")], returnType := none }, accessFlags := 2, code := some k15c9 }
/-- java/lang/AbstractStringBuilder -/
def k15 : Class := { plain "java/lang/AbstractStringBuilder" (some 0) with
  accessFlags := 1056
  interfaces := #[14, 4]
  cf := some (fileOf pool15 10 #[] #[{ accessFlags := 0, nameIndex := 7, descriptorIndex := 8, attributes := #[] }, { accessFlags := 0, nameIndex := 7, descriptorIndex := 103, attributes := #[] }, { accessFlags := 1, nameIndex := 34, descriptorIndex := 35, attributes := #[] }, { accessFlags := 2, nameIndex := 102, descriptorIndex := 103, attributes := #[] }, { accessFlags := 1, nameIndex := 45, descriptorIndex := 46, attributes := #[] }, { accessFlags := 1, nameIndex := 45, descriptorIndex := 292, attributes := #[] }, { accessFlags := 16, nameIndex := 552, descriptorIndex := 403, attributes := #[] }, { accessFlags := 16, nameIndex := 85, descriptorIndex := 86, attributes := #[] }, { accessFlags := 2, nameIndex := 217, descriptorIndex := 69, attributes := #[] }, { accessFlags := 2, nameIndex := 210, descriptorIndex := 211, attributes := #[] }] 1056 4 #[444, 48] #[{ accessFlags := 0, nameIndex := 17, descriptorIndex := 14, attributes := #[] }, { accessFlags := 0, nameIndex := 24, descriptorIndex := 25, attributes := #[] }, { accessFlags := 0, nameIndex := 75, descriptorIndex := 21, attributes := #[] }, { accessFlags := 0, nameIndex := 81, descriptorIndex := 82, attributes := #[] }, { accessFlags := 26, nameIndex := 13, descriptorIndex := 14, attributes := #[] }])
  fields := #[{ name := "value", type := (.array .byte), accessFlags := 0, slot := 0, constantValue := 0 }, { name := "coder", type := .byte, accessFlags := 0, slot := 1, constantValue := 0 }, { name := "maybeLatin1", type := .boolean, accessFlags := 0, slot := 2, constantValue := 0 }, { name := "count", type := .int, accessFlags := 0, slot := 3, constantValue := 0 }, { name := "EMPTYVALUE", type := (.array .byte), accessFlags := 26, slot := 0, constantValue := 0 }]
  methods := #[k15m0, k15m1, k15m2, k15m3, k15m4, k15m5, k15m6, k15m7, k15m8, k15m9]
  instanceTypes := #[(.array .byte), .byte, .boolean, .int]
  staticTypes := #[(.array .byte)]
  resolved := Array.replicate 609 none
  statics := none }

def pool16 : Array CpInfo := pool [(1, .methodref 2 3), (0, .class_ 4), (0, .nameAndType 5 6), (0, u "java/lang/AbstractStringBuilder"), (0, u "<init>"), (0, u "(I)V"), (11, .class_ 20), (1, u "java/lang/String"), (3, .class_ 26), (1, u "java/lang/StringBuilder"), (0, u "append"), (0, u "(Ljava/lang/String;)Ljava/lang/StringBuilder;"), (0, .methodref 2 30), (0, .nameAndType 27 31), (0, u "(Ljava/lang/String;)Ljava/lang/AbstractStringBuilder;"), (18, .methodref 2 51), (0, .nameAndType 27 52), (0, u "(C)Ljava/lang/AbstractStringBuilder;"), (84, .methodref 18 138), (0, .nameAndType 5 139), (0, u "(Ljava/lang/StringBuilder;)V"), (5, u "()V"), (10, u "()I"), (129, u "(C)Ljava/lang/StringBuilder;"), (56, .methodref 2 344), (0, .nameAndType 345 156), (0, u "length"), (3, .class_ 350), (0, u "java/lang/Appendable"), (0, .class_ 352), (0, u "java/io/Serializable"), (0, .class_ 354), (0, u "java/lang/Comparable"), (0, .class_ 356), (0, u "java/lang/CharSequence"), (0, u "serialVersionUID"), (0, u "J"), (40, u "toString"), (0, u "()Ljava/lang/String;")] 21

def k16c0 : Code := { maxStack := 2, maxLocals := 1, code := jdk_67_method_1_code, exceptionTable := #[], attributes := #[] }
def k16m0 : Method := { name := "<init>", desc := "()V", sig := { parameters := [], returnType := none }, accessFlags := 1, code := some k16c0 }
def k16c1 : Code := { maxStack := 2, maxLocals := 2, code := jdk_67_method_7_code, exceptionTable := #[], attributes := #[] }
def k16m1 : Method := { name := "append", desc := "(Ljava/lang/String;)Ljava/lang/StringBuilder;", sig := { parameters := [(.object "java/lang/String")], returnType := some (.object "java/lang/StringBuilder") }, accessFlags := 1, code := some k16c1 }
def k16c2 : Code := { maxStack := 2, maxLocals := 2, code := jdk_67_method_14_code, exceptionTable := #[], attributes := #[] }
def k16m2 : Method := { name := "append", desc := "(C)Ljava/lang/StringBuilder;", sig := { parameters := [.char], returnType := some (.object "java/lang/StringBuilder") }, accessFlags := 1, code := some k16c2 }
def k16c3 : Code := { maxStack := 3, maxLocals := 1, code := jdk_67_method_42_code, exceptionTable := #[], attributes := #[] }
def k16m3 : Method := { name := "toString", desc := "()Ljava/lang/String;", sig := { parameters := [], returnType := some (.object "java/lang/String") }, accessFlags := 1, code := some k16c3 }
def k16c4 : Code := { maxStack := 1, maxLocals := 1, code := jdk_67_method_93_code, exceptionTable := #[], attributes := #[] }
def k16m4 : Method := { name := "length", desc := "()I", sig := { parameters := [], returnType := some .int }, accessFlags := 4161, code := some k16c4 }
/-- java/lang/StringBuilder -/
def k16 : Class := { plain "java/lang/StringBuilder" (some 15) with
  accessFlags := 49
  interfaces := #[14, 2, 3, 4]
  cf := some (fileOf pool16 24 #[] #[{ accessFlags := 1, nameIndex := 5, descriptorIndex := 145, attributes := #[] }, { accessFlags := 1, nameIndex := 27, descriptorIndex := 28, attributes := #[] }, { accessFlags := 1, nameIndex := 27, descriptorIndex := 286, attributes := #[] }, { accessFlags := 1, nameIndex := 399, descriptorIndex := 400, attributes := #[] }, { accessFlags := 4161, nameIndex := 345, descriptorIndex := 156, attributes := #[] }] 49 2 #[349, 351, 353, 355] #[{ accessFlags := 24, nameIndex := 357, descriptorIndex := 358, attributes := #[] }])
  fields := #[{ name := "serialVersionUID", type := .long, accessFlags := 24, slot := 0, constantValue := 0 }]
  methods := #[k16m0, k16m1, k16m2, k16m3, k16m4]
  instanceTypes := #[(.array .byte), .byte, .boolean, .int]
  staticTypes := #[.long]
  resolved := Array.replicate 422 none
  statics := none }

def pool17 : Array CpInfo := pool [(2, .class_ 4), (1, u "java/lang/Object"), (0, u "<init>"), (0, u "()V"), (1, .class_ 10), (1, u "java/lang/System"), (0, u "allowSecurityManager"), (0, u "I"), (16, u "cons"), (0, u "Ljava/io/Console;"), (77, .class_ 110), (1, u "java/lang/System$CallersHolder"), (43, u "initialErrStream"), (0, u "Ljava/io/PrintStream;"), (19, u "security"), (0, u "Ljava/lang/SecurityManager;"), (31, .class_ 209), (0, u "java/lang/System$1"), (7, u "props"), (0, u "Ljava/util/Properties;"), (2, u "lineSeparator"), (0, u "Ljava/lang/String;"), (96, .class_ 321), (1, u "java/lang/System$LoggerFinder"), (5, .class_ 328), (0, u "java/lang/System$Logger"), (67, u "err"), (2, u "out"), (91, u "notSupportedJnuEncoding"), (15, u "in"), (17, u "initialIn"), (0, u "Ljava/io/InputStream;"), (35, u "bootLayer"), (0, u "Ljava/lang/ModuleLayer;"), (99, .class_ 664), (0, u "java/lang/System$2"), (9, u "NEVER"), (2, u "MAYBE"), (49, u "arraycopy"), (0, u "(Ljava/lang/Object;ILjava/lang/Object;II)V"), (72, .class_ 802), (0, u "java/lang/System$Logger$Level")] 31

def k17m0 : Method := { name := "<init>", desc := "()V", sig := { parameters := [], returnType := none }, accessFlags := 2, code := none }
def k17m1 : Method := { name := "arraycopy", desc := "(Ljava/lang/Object;ILjava/lang/Object;II)V", sig := { parameters := [(.object "java/lang/Object"), .int, (.object "java/lang/Object"), .int, .int], returnType := none }, accessFlags := 265, code := none }
/-- java/lang/System -/
def k17 : Class := { plain "java/lang/System" (some 0) with
  accessFlags := 49
  interfaces := #[]
  cf := some (fileOf pool17 8 #[.nestMembers #[319, 327, 801, 108, 663, 208]] #[{ accessFlags := 2, nameIndex := 5, descriptorIndex := 6, attributes := #[] }, { accessFlags := 265, nameIndex := 727, descriptorIndex := 728, attributes := #[] }] 49 2 #[] #[{ accessFlags := 25, nameIndex := 507, descriptorIndex := 526, attributes := #[] }, { accessFlags := 25, nameIndex := 399, descriptorIndex := 155, attributes := #[] }, { accessFlags := 25, nameIndex := 396, descriptorIndex := 155, attributes := #[] }, { accessFlags := 10, nameIndex := 525, descriptorIndex := 526, attributes := #[] }, { accessFlags := 26, nameIndex := 674, descriptorIndex := 12, attributes := #[] }, { accessFlags := 26, nameIndex := 677, descriptorIndex := 12, attributes := #[] }, { accessFlags := 10, nameIndex := 11, descriptorIndex := 12, attributes := #[] }, { accessFlags := 74, nameIndex := 175, descriptorIndex := 176, attributes := #[] }, { accessFlags := 10, nameIndex := 491, descriptorIndex := 222, attributes := #[] }, { accessFlags := 74, nameIndex := 29, descriptorIndex := 30, attributes := #[] }, { accessFlags := 74, nameIndex := 154, descriptorIndex := 155, attributes := #[] }, { accessFlags := 10, nameIndex := 217, descriptorIndex := 218, attributes := #[] }, { accessFlags := 10, nameIndex := 221, descriptorIndex := 222, attributes := #[] }, { accessFlags := 8, nameIndex := 562, descriptorIndex := 563, attributes := #[] }])
  fields := #[{ name := "in", type := (.object "java/io/InputStream"), accessFlags := 25, slot := 0, constantValue := 0 }, { name := "out", type := (.object "java/io/PrintStream"), accessFlags := 25, slot := 1, constantValue := 0 }, { name := "err", type := (.object "java/io/PrintStream"), accessFlags := 25, slot := 2, constantValue := 0 }, { name := "initialIn", type := (.object "java/io/InputStream"), accessFlags := 10, slot := 3, constantValue := 0 }, { name := "NEVER", type := .int, accessFlags := 26, slot := 4, constantValue := 0 }, { name := "MAYBE", type := .int, accessFlags := 26, slot := 5, constantValue := 0 }, { name := "allowSecurityManager", type := .int, accessFlags := 10, slot := 6, constantValue := 0 }, { name := "security", type := (.object "java/lang/SecurityManager"), accessFlags := 74, slot := 7, constantValue := 0 }, { name := "notSupportedJnuEncoding", type := (.object "java/lang/String"), accessFlags := 10, slot := 8, constantValue := 0 }, { name := "cons", type := (.object "java/io/Console"), accessFlags := 74, slot := 9, constantValue := 0 }, { name := "initialErrStream", type := (.object "java/io/PrintStream"), accessFlags := 74, slot := 10, constantValue := 0 }, { name := "props", type := (.object "java/util/Properties"), accessFlags := 10, slot := 11, constantValue := 0 }, { name := "lineSeparator", type := (.object "java/lang/String"), accessFlags := 10, slot := 12, constantValue := 0 }, { name := "bootLayer", type := (.object "java/lang/ModuleLayer"), accessFlags := 8, slot := 13, constantValue := 0 }]
  methods := #[k17m0, k17m1]
  instanceTypes := #[]
  staticTypes := #[(.object "java/io/InputStream"), (.object "java/io/PrintStream"), (.object "java/io/PrintStream"), (.object "java/io/InputStream"), .int, .int, .int, (.object "java/lang/SecurityManager"), (.object "java/lang/String"), (.object "java/io/Console"), (.object "java/io/PrintStream"), (.object "java/util/Properties"), (.object "java/lang/String"), (.object "java/lang/ModuleLayer")]
  resolved := Array.replicate 834 none
  statics := none }

def pool18 : Array CpInfo := pool [(2, .class_ 4), (1, u "java/lang/Object"), (0, u "<init>"), (0, u "()V"), (7, .class_ 16), (1, u "java/util/Arrays"), (57, .class_ 76), (1, u "java/util/Arrays$NaturalOrder"), (36, .class_ 115), (1, u "java/util/Arrays$LegacyMergeSort"), (1, u "Z"), (21, u "copyOfRange"), (10, .methodref 151 152), (0, .class_ 153), (0, .nameAndType 154 155), (0, u "java/lang/System"), (0, u "arraycopy"), (0, u "(Ljava/lang/Object;ILjava/lang/Object;II)V"), (148, .methodref 305 306), (0, .class_ 307), (0, .nameAndType 308 309), (0, u "java/lang/Math"), (0, u "min"), (0, u "(II)I"), (29, .methodref 14 340), (0, .nameAndType 341 342), (0, u "copyOfRangeByte"), (0, u "([BII)[B"), (0, .methodref 14 344), (0, .nameAndType 345 346), (0, u "checkLength"), (0, u "(II)V"), (28, .class_ 376), (0, u "java/util/Arrays$ArrayList"), (68, u "$assertionsDisabled"), (269, u "MIN_ARRAY_SORT_GRAN"), (0, u "I"), (2, u "INSERTIONSORT_THRESHOLD"), (255, .class_ 976), (0, u "java/util/Arrays$ArrayItr")] 52

def k18m0 : Method := { name := "<init>", desc := "()V", sig := { parameters := [], returnType := none }, accessFlags := 2, code := none }
def k18c1 : Code := { maxStack := 4, maxLocals := 2, code := jdk_65_method_131_code, exceptionTable := #[], attributes := #[] }
def k18m1 : Method := { name := "checkLength", desc := "(II)V", sig := { parameters := [.int, .int], returnType := none }, accessFlags := 10, code := some k18c1 }
def k18c2 : Code := { maxStack := 3, maxLocals := 3, code := jdk_65_method_132_code, exceptionTable := #[], attributes := #[] }
def k18m2 : Method := { name := "copyOfRange", desc := "([BII)[B", sig := { parameters := [(.array .byte), .int, .int], returnType := some (.array .byte) }, accessFlags := 9, code := some k18c2 }
def k18c3 : Code := { maxStack := 6, maxLocals := 5, code := jdk_65_method_133_code, exceptionTable := #[], attributes := #[] }
def k18m3 : Method := { name := "copyOfRangeByte", desc := "([BII)[B", sig := { parameters := [(.array .byte), .int, .int], returnType := some (.array .byte) }, accessFlags := 10, code := some k18c3 }
/-- java/util/Arrays -/
def k18 : Class := { plain "java/util/Arrays" (some 0) with
  accessFlags := 49
  interfaces := #[]
  cf := some (fileOf pool18 14 #[.nestMembers #[975, 375, 113, 74]] #[{ accessFlags := 2, nameIndex := 5, descriptorIndex := 6, attributes := #[] }, { accessFlags := 10, nameIndex := 345, descriptorIndex := 346, attributes := #[] }, { accessFlags := 9, nameIndex := 139, descriptorIndex := 342, attributes := #[] }, { accessFlags := 10, nameIndex := 341, descriptorIndex := 342, attributes := #[] }] 49 2 #[] #[{ accessFlags := 26, nameIndex := 715, descriptorIndex := 716, attributes := #[] }, { accessFlags := 26, nameIndex := 719, descriptorIndex := 716, attributes := #[] }, { accessFlags := 4120, nameIndex := 445, descriptorIndex := 117, attributes := #[] }])
  fields := #[{ name := "MIN_ARRAY_SORT_GRAN", type := .int, accessFlags := 26, slot := 0, constantValue := 0 }, { name := "INSERTIONSORT_THRESHOLD", type := .int, accessFlags := 26, slot := 1, constantValue := 0 }, { name := "$assertionsDisabled", type := .boolean, accessFlags := 4120, slot := 2, constantValue := 0 }]
  methods := #[k18m0, k18m1, k18m2, k18m3]
  instanceTypes := #[]
  staticTypes := #[.int, .int, .boolean]
  resolved := Array.replicate 1029 none
  statics := none }

def pool19 : Array CpInfo := pool [(9, u "<init>"), (6, .class_ 18), (1, u "java/lang/Object"), (0, u "()V"), (1, .class_ 23), (1, u "jdk/internal/util/ArraysSupport"), (0, u "LOG2_ARRAY_LONG_INDEX_SCALE"), (0, u "I"), (2, u "U"), (0, u "Ljdk/internal/misc/Unsafe;"), (8, u "BIG_ENDIAN"), (0, u "Z"), (8, u "LOG2_BYTE_BIT_SIZE"), (4, u "LOG2_ARRAY_INT_INDEX_SCALE"), (54, u "JLA"), (0, u "Ljdk/internal/access/JavaLangAccess;"), (11, u "LOG2_ARRAY_BOOLEAN_INDEX_SCALE"), (9, u "LOG2_ARRAY_BYTE_INDEX_SCALE"), (5, u "LOG2_ARRAY_CHAR_INDEX_SCALE"), (5, u "LOG2_ARRAY_SHORT_INDEX_SCALE"), (18, u "LOG2_ARRAY_FLOAT_INDEX_SCALE"), (24, u "LOG2_ARRAY_DOUBLE_INDEX_SCALE"), (89, u "T_BOOLEAN"), (2, u "T_CHAR"), (1, u "T_FLOAT"), (1, u "T_DOUBLE"), (1, u "T_BYTE"), (1, u "T_SHORT"), (1, u "T_INT"), (1, u "T_LONG"), (1, u "SOFT_MAX_ARRAY_LENGTH")] 83

def k19m0 : Method := { name := "<init>", desc := "()V", sig := { parameters := [], returnType := none }, accessFlags := 2, code := none }
/-- jdk/internal/util/ArraysSupport -/
def k19 : Class := { plain "jdk/internal/util/ArraysSupport" (some 0) with
  accessFlags := 33
  interfaces := #[]
  cf := some (fileOf pool19 21 #[] #[{ accessFlags := 2, nameIndex := 9, descriptorIndex := 19, attributes := #[] }] 33 16 #[] #[{ accessFlags := 24, nameIndex := 28, descriptorIndex := 29, attributes := #[] }, { accessFlags := 26, nameIndex := 38, descriptorIndex := 39, attributes := #[] }, { accessFlags := 25, nameIndex := 121, descriptorIndex := 25, attributes := #[] }, { accessFlags := 25, nameIndex := 131, descriptorIndex := 25, attributes := #[] }, { accessFlags := 25, nameIndex := 137, descriptorIndex := 25, attributes := #[] }, { accessFlags := 25, nameIndex := 143, descriptorIndex := 25, attributes := #[] }, { accessFlags := 25, nameIndex := 53, descriptorIndex := 25, attributes := #[] }, { accessFlags := 25, nameIndex := 24, descriptorIndex := 25, attributes := #[] }, { accessFlags := 25, nameIndex := 162, descriptorIndex := 25, attributes := #[] }, { accessFlags := 25, nameIndex := 187, descriptorIndex := 25, attributes := #[] }, { accessFlags := 26, nameIndex := 48, descriptorIndex := 25, attributes := #[] }, { accessFlags := 25, nameIndex := 277, descriptorIndex := 25, attributes := #[] }, { accessFlags := 25, nameIndex := 280, descriptorIndex := 25, attributes := #[] }, { accessFlags := 25, nameIndex := 282, descriptorIndex := 25, attributes := #[] }, { accessFlags := 25, nameIndex := 284, descriptorIndex := 25, attributes := #[] }, { accessFlags := 25, nameIndex := 286, descriptorIndex := 25, attributes := #[] }, { accessFlags := 25, nameIndex := 288, descriptorIndex := 25, attributes := #[] }, { accessFlags := 25, nameIndex := 290, descriptorIndex := 25, attributes := #[] }, { accessFlags := 25, nameIndex := 292, descriptorIndex := 25, attributes := #[] }, { accessFlags := 26, nameIndex := 108, descriptorIndex := 109, attributes := #[] }, { accessFlags := 25, nameIndex := 294, descriptorIndex := 25, attributes := #[] }])
  fields := #[{ name := "U", type := (.object "jdk/internal/misc/Unsafe"), accessFlags := 24, slot := 0, constantValue := 0 }, { name := "BIG_ENDIAN", type := .boolean, accessFlags := 26, slot := 1, constantValue := 0 }, { name := "LOG2_ARRAY_BOOLEAN_INDEX_SCALE", type := .int, accessFlags := 25, slot := 2, constantValue := 0 }, { name := "LOG2_ARRAY_BYTE_INDEX_SCALE", type := .int, accessFlags := 25, slot := 3, constantValue := 0 }, { name := "LOG2_ARRAY_CHAR_INDEX_SCALE", type := .int, accessFlags := 25, slot := 4, constantValue := 0 }, { name := "LOG2_ARRAY_SHORT_INDEX_SCALE", type := .int, accessFlags := 25, slot := 5, constantValue := 0 }, { name := "LOG2_ARRAY_INT_INDEX_SCALE", type := .int, accessFlags := 25, slot := 6, constantValue := 0 }, { name := "LOG2_ARRAY_LONG_INDEX_SCALE", type := .int, accessFlags := 25, slot := 7, constantValue := 0 }, { name := "LOG2_ARRAY_FLOAT_INDEX_SCALE", type := .int, accessFlags := 25, slot := 8, constantValue := 0 }, { name := "LOG2_ARRAY_DOUBLE_INDEX_SCALE", type := .int, accessFlags := 25, slot := 9, constantValue := 0 }, { name := "LOG2_BYTE_BIT_SIZE", type := .int, accessFlags := 26, slot := 10, constantValue := 0 }, { name := "T_BOOLEAN", type := .int, accessFlags := 25, slot := 11, constantValue := 0 }, { name := "T_CHAR", type := .int, accessFlags := 25, slot := 12, constantValue := 0 }, { name := "T_FLOAT", type := .int, accessFlags := 25, slot := 13, constantValue := 0 }, { name := "T_DOUBLE", type := .int, accessFlags := 25, slot := 14, constantValue := 0 }, { name := "T_BYTE", type := .int, accessFlags := 25, slot := 15, constantValue := 0 }, { name := "T_SHORT", type := .int, accessFlags := 25, slot := 16, constantValue := 0 }, { name := "T_INT", type := .int, accessFlags := 25, slot := 17, constantValue := 0 }, { name := "T_LONG", type := .int, accessFlags := 25, slot := 18, constantValue := 0 }, { name := "JLA", type := (.object "jdk/internal/access/JavaLangAccess"), accessFlags := 26, slot := 19, constantValue := 0 }, { name := "SOFT_MAX_ARRAY_LENGTH", type := .int, accessFlags := 25, slot := 20, constantValue := 0 }]
  methods := #[k19m0]
  instanceTypes := #[]
  staticTypes := #[(.object "jdk/internal/misc/Unsafe"), .boolean, .int, .int, .int, .int, .int, .int, .int, .int, .int, .int, .int, .int, .int, .int, .int, .int, .int, (.object "jdk/internal/access/JavaLangAccess"), .int]
  resolved := Array.replicate 378 none
  statics := none }

def pool20 : Array CpInfo := pool [(1, u "java/lang/Cloneable"), (0, .class_ 1), (0, u "java/lang/Object"), (0, .class_ 3)] 3

/-- java/lang/Cloneable -/
def k20 : Class := { plain "java/lang/Cloneable" (some 0) with
  accessFlags := 1537
  interfaces := #[]
  cf := some (fileOf pool20 2 #[] #[] 1537 4 #[] #[])
  fields := #[]
  methods := #[]
  instanceTypes := #[]
  staticTypes := #[]
  resolved := Array.replicate 8 none
  statics := none }

/-- the primitive byte -/
def k21 : Class := { plain "byte" none with kind := .primitive 'B', accessFlags := 0x411 }
/-- [B -/
def k22 : Class := { plain "[B" (some 0) with kind := .array 21 .byte, interfaces := #[20, 2], accessFlags := 1041 }

/-- the primitive char -/
def k23 : Class := { plain "char" none with kind := .primitive 'C', accessFlags := 0x411 }
/-- [C -/
def k24 : Class := { plain "[C" (some 0) with kind := .array 23 .char, interfaces := #[20, 2], accessFlags := 1041 }

/-- the primitive int -/
def k25 : Class := { plain "int" none with kind := .primitive 'I', accessFlags := 0x411 }
/-- [I -/
def k26 : Class := { plain "[I" (some 0) with kind := .array 25 .int, interfaces := #[20, 2], accessFlags := 1041 }

def heap : Heap := #[{ cls := 7, slots := #[.long 0, .int 1, .null, .int 0, .null, .int 0, .int 0], vm := .statics 7 },
  { cls := 13, slots := #[.null, .null, .null], vm := .statics 13 }]
def classes : Array Class := #[k0, k1, k2, k3, k4, k5, k6, k7, k8, k9, k10, k11, k12, k13, k14, k15, k16, k17, k18, k19, k20, k21, k22, k23, k24, k25, k26]
def interned : List (Array UInt16 × Addr) := []
def slotsUsed : Nat := 10
def theMethod : MethodId := ⟨1, 1⟩
def args0 : Array Value := #[.int 5, .int 5]
def aboutOver (below : List Frame) : State where
  vm := { classes := classes, interned := interned.toArray }
  heap := heap
  slotsUsed := slotsUsed
  threads := #[{ frames := .invoking theMethod args0 :: below }]
def below0 : List Frame := [.native { method := ⟨0, 0⟩, args := #[] }]
def about1 : State := aboutOver below0
def p0 : Program := .bare "" "" ""
def e0 : Env := launch0.env 0 0 0
theorem w_frames : about1.frames = Frame.invoking theMethod args0 :: below0 := rfl
set_option maxRecDepth 65536 in
theorem w_args : argsFit about1.vm theMethod args0 = true := by decide +kernel
set_option maxRecDepth 65536 in
theorem w_heap : heapFits about1 = true := by decide +kernel
set_option maxRecDepth 65536 in
theorem w_runnable : about1.curStatus? = some .runnable := by decide +kernel
set_option maxRecDepth 65536 in
theorem w_alone : about1.alone = true := by decide +kernel
set_option maxRecDepth 65536 in
theorem w_named : about1.methodNamed? x = some theMethod := by decide +kernel
set_option maxRecDepth 65536 in
theorem w_hears : about1.hears theMethod below0 = true := by decide +kernel
set_option maxRecDepth 65536 in
theorem w_ripe : about1.ripe theMethod args0 below0 = true := by decide +kernel
theorem w_running : about1.status = .running := rfl
set_option maxRecDepth 65536 in
theorem w_room : about1.hasRoom e0.platform room_1 = true :=
  launch0.hasRoom_least _ room_1 (by decide +kernel) (by decide +kernel) (by decide +kernel) (by decide +kernel) (by decide +kernel) (by decide +kernel)
theorem allAtoms_all (ts : List Jvm.Cond) (a : Array Jvm.Value) (st : Jvm.State) : (allAtoms ts).before a st = ts.all (fun c => c.before a st) := by
  induction ts with
  | nil => rfl
  | cons c t ih =>
    show (Jvm.Cond.and c (allAtoms t)).before a st = _
    rw [Jvm.Cond.before_and, ih, List.all_cons]
def words1 : List Jvm.Cond := Jvm.Cond.code x code maxLocals ret :: tables_1
/-- a 'code' word, met by the world's own term for the bytes: nothing is compared byte by byte -/
theorem code_word {y : MethodName} {bytes : ByteArray} {mx : Nat} {rt : Option FieldType} {a : Array Value} {s : State} {m : MethodId} {meth : Method} {c : Code} (h1 : s.methodNamed? y = some m) (h2 : s.vm.method? m = some meth) (h3 : meth.code = some c) (h4 : c.code = bytes)
    (h5 : (c.maxLocals == mx && c.exceptionTable.isEmpty && decide (c.maxStack ≤ mostOperands) && decide (meth.sig.returnType = rt) && !meth.locks && decide (parseMethodDescriptor y.desc = some meth.sig)) = true) : (Jvm.Cond.code y bytes mx rt).before a s = true := by
  simp only [Bool.and_eq_true, beq_iff_eq, Bool.not_eq_true', decide_eq_true_eq] at h5
  obtain ⟨⟨⟨⟨⟨g1, g2⟩, g3⟩, g4⟩, g5⟩, g6⟩ := h5
  simp [Cond.before, Cond.holds, Cond.value, h1, h2, h3, h4, g1, g2, g3, g4, g5, g6]
def isCode : Jvm.Cond → Bool
  | .code _ _ _ _ => true
  | _ => false
theorem all_split {L : List Jvm.Cond} {P : Jvm.Cond → Bool} (h1 : L.all (fun c => isCode c || P c) = true) (h2 : ∀ c ∈ L.filter isCode, P c = true) : L.all P = true := by
  refine List.all_eq_true.mpr fun c hc => ?_
  have h := List.all_eq_true.mp h1 c hc
  rcases Bool.eq_false_or_eq_true (isCode c) with hi | hi
  · exact h2 c (List.mem_filter.mpr ⟨hc, hi⟩)
  · simpa [hi] using h
set_option maxRecDepth 65536 in
theorem w_c0 : (Jvm.Cond.code x code maxLocals ret).before args0 about1 = true := code_word (m := ⟨1, 1⟩) (meth := k1m1) (c := k1c1) (by decide +kernel) rfl rfl rfl (by decide +kernel)
set_option maxRecDepth 65536 in
theorem w_c1 : (Jvm.Cond.code ({ cls := "com/example/holdfast/holdfast/redis/LockKeysLockKeyPinLaw", name := "prefixChar", desc := "(I)C" } : Jvm.MethodName) method_3_code (2 : Nat) (Option.some Jvm.ClassFile.FieldType.char)).before args0 about1 = true := code_word (m := ⟨1, 2⟩) (meth := k1m2) (c := k1c2) (by decide +kernel) rfl rfl rfl (by decide +kernel)
set_option maxRecDepth 65536 in
theorem w_c2 : (Jvm.Cond.code ({ cls := "com/example/holdfast/holdfast/redis/LockKeysLockKeyPinLaw", name := "str", desc := "(ICCC)Ljava/lang/String;" } : Jvm.MethodName) method_4_code (4 : Nat) (Option.some (Jvm.ClassFile.FieldType.object "java/lang/String"))).before args0 about1 = true := code_word (m := ⟨1, 3⟩) (meth := k1m3) (c := k1c3) (by decide +kernel) rfl rfl rfl (by decide +kernel)
set_option maxRecDepth 65536 in
theorem w_c3 : (Jvm.Cond.code ({ cls := "java/lang/String", name := "<init>", desc := "([C)V" } : Jvm.MethodName) jdk_42_method_3_code (2 : Nat) (Option.none : Option Jvm.ClassFile.FieldType)).before args0 about1 = true := code_word (m := ⟨7, 1⟩) (meth := k7m1) (c := k7c1) (by decide +kernel) rfl rfl rfl (by decide +kernel)
set_option maxRecDepth 65536 in
theorem w_c4 : (Jvm.Cond.code ({ cls := "java/lang/String", name := "<init>", desc := "([CIILjava/lang/Void;)V" } : Jvm.MethodName) jdk_42_method_149_code (6 : Nat) (Option.none : Option Jvm.ClassFile.FieldType)).before args0 about1 = true := code_word (m := ⟨7, 9⟩) (meth := k7m9) (c := k7c9) (by decide +kernel) rfl rfl rfl (by decide +kernel)
set_option maxRecDepth 65536 in
theorem w_c5 : (Jvm.Cond.code ({ cls := "java/lang/Object", name := "<init>", desc := "()V" } : Jvm.MethodName) object_method_1_code (1 : Nat) (Option.none : Option Jvm.ClassFile.FieldType)).before args0 about1 = true := code_word (m := ⟨0, 0⟩) (meth := k0m0) (c := k0c0) (by decide +kernel) rfl rfl rfl (by decide +kernel)
set_option maxRecDepth 65536 in
theorem w_c6 : (Jvm.Cond.code ({ cls := "java/lang/StringUTF16", name := "compress", desc := "([CII)[B" } : Jvm.MethodName) jdk_52_method_16_code (6 : Nat) (Option.some (Jvm.ClassFile.FieldType.array Jvm.ClassFile.FieldType.byte))).before args0 about1 = true := code_word (m := ⟨8, 2⟩) (meth := k8m2) (c := k8c2) (by decide +kernel) rfl rfl rfl (by decide +kernel)
set_option maxRecDepth 65536 in
theorem w_c7 : (Jvm.Cond.code ({ cls := "java/lang/StringUTF16", name := "compress", desc := "([CI[BII)I" } : Jvm.MethodName) jdk_52_method_21_code (7 : Nat) (Option.some Jvm.ClassFile.FieldType.int)).before args0 about1 = true := code_word (m := ⟨8, 3⟩) (meth := k8m3) (c := k8c3) (by decide +kernel) rfl rfl rfl (by decide +kernel)
set_option maxRecDepth 65536 in
theorem w_c8 : (Jvm.Cond.code ({ cls := "java/lang/StringUTF16", name := "coderFromArrayLen", desc := "([BI)B" } : Jvm.MethodName) jdk_52_method_15_code (2 : Nat) (Option.some Jvm.ClassFile.FieldType.byte)).before args0 about1 = true := code_word (m := ⟨8, 1⟩) (meth := k8m1) (c := k8c1) (by decide +kernel) rfl rfl rfl (by decide +kernel)
set_option maxRecDepth 65536 in
theorem w_c9 : (Jvm.Cond.code ({ cls := "com/example/holdfast/holdfast/redis/LockKeys", name := "<init>", desc := "(Ljava/lang/String;)V" } : Jvm.MethodName) prog_7_method_1_code (2 : Nat) (Option.none : Option Jvm.ClassFile.FieldType)).before args0 about1 = true := code_word (m := ⟨9, 0⟩) (meth := k9m0) (c := k9c0) (by decide +kernel) rfl rfl rfl (by decide +kernel)
set_option maxRecDepth 65536 in
theorem w_c10 : (Jvm.Cond.code ({ cls := "java/util/Objects", name := "requireNonNull", desc := "(Ljava/lang/Object;Ljava/lang/String;)Ljava/lang/Object;" } : Jvm.MethodName) jdk_31_method_11_code (2 : Nat) (Option.some (Jvm.ClassFile.FieldType.object "java/lang/Object"))).before args0 about1 = true := code_word (m := ⟨10, 1⟩) (meth := k10m1) (c := k10c1) (by decide +kernel) rfl rfl rfl (by decide +kernel)
set_option maxRecDepth 65536 in
theorem w_c11 : (Jvm.Cond.code ({ cls := "java/lang/String", name := "indexOf", desc := "(I)I" } : Jvm.MethodName) jdk_42_method_79_code (2 : Nat) (Option.some Jvm.ClassFile.FieldType.int)).before args0 about1 = true := code_word (m := ⟨7, 6⟩) (meth := k7m6) (c := k7c6) (by decide +kernel) rfl rfl rfl (by decide +kernel)
set_option maxRecDepth 65536 in
theorem w_c12 : (Jvm.Cond.code ({ cls := "java/lang/String", name := "indexOf", desc := "(II)I" } : Jvm.MethodName) jdk_42_method_80_code (3 : Nat) (Option.some Jvm.ClassFile.FieldType.int)).before args0 about1 = true := code_word (m := ⟨7, 7⟩) (meth := k7m7) (c := k7c7) (by decide +kernel) rfl rfl rfl (by decide +kernel)
set_option maxRecDepth 65536 in
theorem w_c13 : (Jvm.Cond.code ({ cls := "java/lang/String", name := "isLatin1", desc := "()Z" } : Jvm.MethodName) jdk_42_method_154_code (1 : Nat) (Option.some Jvm.ClassFile.FieldType.boolean)).before args0 about1 = true := code_word (m := ⟨7, 12⟩) (meth := k7m12) (c := k7c12) (by decide +kernel) rfl rfl rfl (by decide +kernel)
set_option maxRecDepth 65536 in
theorem w_c14 : (Jvm.Cond.code ({ cls := "java/lang/String", name := "length", desc := "()I" } : Jvm.MethodName) jdk_42_method_54_code (1 : Nat) (Option.some Jvm.ClassFile.FieldType.int)).before args0 about1 = true := code_word (m := ⟨7, 3⟩) (meth := k7m3) (c := k7c3) (by decide +kernel) rfl rfl rfl (by decide +kernel)
set_option maxRecDepth 65536 in
theorem w_c15 : (Jvm.Cond.code ({ cls := "java/lang/String", name := "coder", desc := "()B" } : Jvm.MethodName) jdk_42_method_152_code (1 : Nat) (Option.some Jvm.ClassFile.FieldType.byte)).before args0 about1 = true := code_word (m := ⟨7, 11⟩) (meth := k7m11) (c := k7c11) (by decide +kernel) rfl rfl rfl (by decide +kernel)
set_option maxRecDepth 65536 in
theorem w_c16 : (Jvm.Cond.code ({ cls := "java/lang/StringLatin1", name := "indexOf", desc := "([BIII)I" } : Jvm.MethodName) jdk_43_method_22_code (4 : Nat) (Option.some Jvm.ClassFile.FieldType.int)).before args0 about1 = true := code_word (m := ⟨11, 4⟩) (meth := k11m4) (c := k11c4) (by decide +kernel) rfl rfl rfl (by decide +kernel)
set_option maxRecDepth 65536 in
theorem w_c17 : (Jvm.Cond.code ({ cls := "java/lang/StringLatin1", name := "canEncode", desc := "(I)Z" } : Jvm.MethodName) jdk_43_method_4_code (1 : Nat) (Option.some Jvm.ClassFile.FieldType.boolean)).before args0 about1 = true := code_word (m := ⟨11, 3⟩) (meth := k11m3) (c := k11c3) (by decide +kernel) rfl rfl rfl (by decide +kernel)
set_option maxRecDepth 65536 in
theorem w_c18 : (Jvm.Cond.code ({ cls := "java/lang/Math", name := "max", desc := "(II)I" } : Jvm.MethodName) jdk_29_method_65_code (2 : Nat) (Option.some Jvm.ClassFile.FieldType.int)).before args0 about1 = true := code_word (m := ⟨12, 1⟩) (meth := k12m1) (c := k12c1) (by decide +kernel) rfl rfl rfl (by decide +kernel)
set_option maxRecDepth 65536 in
theorem w_c19 : (Jvm.Cond.code ({ cls := "java/lang/Math", name := "min", desc := "(II)I" } : Jvm.MethodName) jdk_29_method_69_code (2 : Nat) (Option.some Jvm.ClassFile.FieldType.int)).before args0 about1 = true := code_word (m := ⟨12, 2⟩) (meth := k12m2) (c := k12c2) (by decide +kernel) rfl rfl rfl (by decide +kernel)
set_option maxRecDepth 65536 in
theorem w_c20 : (Jvm.Cond.code ({ cls := "com/example/holdfast/holdfast/redis/LockKeys", name := "lockKey", desc := "(Ljava/lang/String;)Ljava/lang/String;" } : Jvm.MethodName) prog_7_method_2_code (2 : Nat) (Option.some (Jvm.ClassFile.FieldType.object "java/lang/String"))).before args0 about1 = true := code_word (m := ⟨9, 1⟩) (meth := k9m1) (c := k9c1) (by decide +kernel) rfl rfl rfl (by decide +kernel)
set_option maxRecDepth 65536 in
theorem w_c21 : (Jvm.Cond.code ({ cls := "java/lang/String", name := "isEmpty", desc := "()Z" } : Jvm.MethodName) jdk_42_method_55_code (1 : Nat) (Option.some Jvm.ClassFile.FieldType.boolean)).before args0 about1 = true := code_word (m := ⟨7, 4⟩) (meth := k7m4) (c := k7c4) (by decide +kernel) rfl rfl rfl (by decide +kernel)
set_option maxRecDepth 65536 in
theorem w_c22 : (Jvm.Cond.code ({ cls := "java/lang/String", name := "charAt", desc := "(I)C" } : Jvm.MethodName) jdk_42_method_56_code (2 : Nat) (Option.some Jvm.ClassFile.FieldType.char)).before args0 about1 = true := code_word (m := ⟨7, 5⟩) (meth := k7m5) (c := k7c5) (by decide +kernel) rfl rfl rfl (by decide +kernel)
set_option maxRecDepth 65536 in
theorem w_c23 : (Jvm.Cond.code ({ cls := "java/lang/StringLatin1", name := "charAt", desc := "([BI)C" } : Jvm.MethodName) jdk_43_method_2_code (2 : Nat) (Option.some Jvm.ClassFile.FieldType.char)).before args0 about1 = true := code_word (m := ⟨11, 1⟩) (meth := k11m1) (c := k11c1) (by decide +kernel) rfl rfl rfl (by decide +kernel)
set_option maxRecDepth 65536 in
theorem w_c24 : (Jvm.Cond.code ({ cls := "java/lang/String", name := "checkIndex", desc := "(II)V" } : Jvm.MethodName) jdk_42_method_155_code (2 : Nat) (Option.none : Option Jvm.ClassFile.FieldType)).before args0 about1 = true := code_word (m := ⟨7, 13⟩) (meth := k7m13) (c := k7c13) (by decide +kernel) rfl rfl rfl (by decide +kernel)
set_option maxRecDepth 65536 in
theorem w_c25 : (Jvm.Cond.code ({ cls := "jdk/internal/util/Preconditions", name := "checkIndex", desc := "(IILjava/util/function/BiFunction;)I" } : Jvm.MethodName) jdk_41_method_11_code (3 : Nat) (Option.some Jvm.ClassFile.FieldType.int)).before args0 about1 = true := code_word (m := ⟨13, 1⟩) (meth := k13m1) (c := k13c1) (by decide +kernel) rfl rfl rfl (by decide +kernel)
set_option maxRecDepth 65536 in
theorem w_c26 : (Jvm.Cond.code ({ cls := "java/lang/StringBuilder", name := "<init>", desc := "()V" } : Jvm.MethodName) jdk_67_method_1_code (1 : Nat) (Option.none : Option Jvm.ClassFile.FieldType)).before args0 about1 = true := code_word (m := ⟨16, 0⟩) (meth := k16m0) (c := k16c0) (by decide +kernel) rfl rfl rfl (by decide +kernel)
set_option maxRecDepth 65536 in
theorem w_c27 : (Jvm.Cond.code ({ cls := "java/lang/AbstractStringBuilder", name := "<init>", desc := "(I)V" } : Jvm.MethodName) jdk_68_method_2_code (2 : Nat) (Option.none : Option Jvm.ClassFile.FieldType)).before args0 about1 = true := code_word (m := ⟨15, 1⟩) (meth := k15m1) (c := k15c1) (by decide +kernel) rfl rfl rfl (by decide +kernel)
set_option maxRecDepth 65536 in
theorem w_c28 : (Jvm.Cond.code ({ cls := "java/lang/StringBuilder", name := "append", desc := "(Ljava/lang/String;)Ljava/lang/StringBuilder;" } : Jvm.MethodName) jdk_67_method_7_code (2 : Nat) (Option.some (Jvm.ClassFile.FieldType.object "java/lang/StringBuilder"))).before args0 about1 = true := code_word (m := ⟨16, 1⟩) (meth := k16m1) (c := k16c1) (by decide +kernel) rfl rfl rfl (by decide +kernel)
set_option maxRecDepth 65536 in
theorem w_c29 : (Jvm.Cond.code ({ cls := "java/lang/AbstractStringBuilder", name := "append", desc := "(Ljava/lang/String;)Ljava/lang/AbstractStringBuilder;" } : Jvm.MethodName) jdk_68_method_22_code (3 : Nat) (Option.some (Jvm.ClassFile.FieldType.object "java/lang/AbstractStringBuilder"))).before args0 about1 = true := code_word (m := ⟨15, 4⟩) (meth := k15m4) (c := k15c4) (by decide +kernel) rfl rfl rfl (by decide +kernel)
set_option maxRecDepth 65536 in
theorem w_c30 : (Jvm.Cond.code ({ cls := "java/lang/AbstractStringBuilder", name := "ensureCapacityInternal", desc := "(I)V" } : Jvm.MethodName) jdk_68_method_9_code (3 : Nat) (Option.none : Option Jvm.ClassFile.FieldType)).before args0 about1 = true := code_word (m := ⟨15, 3⟩) (meth := k15m3) (c := k15c3) (by decide +kernel) rfl rfl rfl (by decide +kernel)
set_option maxRecDepth 65536 in
theorem w_c31 : (Jvm.Cond.code ({ cls := "java/lang/AbstractStringBuilder", name := "putStringAt", desc := "(ILjava/lang/String;)V" } : Jvm.MethodName) jdk_68_method_73_code (3 : Nat) (Option.none : Option Jvm.ClassFile.FieldType)).before args0 about1 = true := code_word (m := ⟨15, 9⟩) (meth := k15m9) (c := k15c9) (by decide +kernel) rfl rfl rfl (by decide +kernel)
set_option maxRecDepth 65536 in
theorem w_c32 : (Jvm.Cond.code ({ cls := "java/lang/AbstractStringBuilder", name := "inflateIfNeededFor", desc := "(Ljava/lang/String;)V" } : Jvm.MethodName) jdk_68_method_71_code (2 : Nat) (Option.none : Option Jvm.ClassFile.FieldType)).before args0 about1 = true := code_word (m := ⟨15, 8⟩) (meth := k15m8) (c := k15c8) (by decide +kernel) rfl rfl rfl (by decide +kernel)
set_option maxRecDepth 65536 in
theorem w_c33 : (Jvm.Cond.code ({ cls := "java/lang/String", name := "getBytes", desc := "([BIB)V" } : Jvm.MethodName) jdk_42_method_147_code (4 : Nat) (Option.none : Option Jvm.ClassFile.FieldType)).before args0 about1 = true := code_word (m := ⟨7, 8⟩) (meth := k7m8) (c := k7c8) (by decide +kernel) rfl rfl rfl (by decide +kernel)
set_option maxRecDepth 65536 in
theorem w_c34 : (Jvm.Cond.code ({ cls := "java/lang/StringBuilder", name := "append", desc := "(C)Ljava/lang/StringBuilder;" } : Jvm.MethodName) jdk_67_method_14_code (2 : Nat) (Option.some (Jvm.ClassFile.FieldType.object "java/lang/StringBuilder"))).before args0 about1 = true := code_word (m := ⟨16, 2⟩) (meth := k16m2) (c := k16c2) (by decide +kernel) rfl rfl rfl (by decide +kernel)
set_option maxRecDepth 65536 in
theorem w_c35 : (Jvm.Cond.code ({ cls := "java/lang/AbstractStringBuilder", name := "append", desc := "(C)Ljava/lang/AbstractStringBuilder;" } : Jvm.MethodName) jdk_68_method_31_code (2 : Nat) (Option.some (Jvm.ClassFile.FieldType.object "java/lang/AbstractStringBuilder"))).before args0 about1 = true := code_word (m := ⟨15, 5⟩) (meth := k15m5) (c := k15c5) (by decide +kernel) rfl rfl rfl (by decide +kernel)
set_option maxRecDepth 65536 in
theorem w_c36 : (Jvm.Cond.code ({ cls := "java/lang/AbstractStringBuilder", name := "isLatin1", desc := "()Z" } : Jvm.MethodName) jdk_68_method_68_code (1 : Nat) (Option.some Jvm.ClassFile.FieldType.boolean)).before args0 about1 = true := code_word (m := ⟨15, 7⟩) (meth := k15m7) (c := k15c7) (by decide +kernel) rfl rfl rfl (by decide +kernel)
set_option maxRecDepth 65536 in
theorem w_c37 : (Jvm.Cond.code ({ cls := "java/lang/StringLatin1", name := "canEncode", desc := "(C)Z" } : Jvm.MethodName) jdk_43_method_3_code (1 : Nat) (Option.some Jvm.ClassFile.FieldType.boolean)).before args0 about1 = true := code_word (m := ⟨11, 2⟩) (meth := k11m2) (c := k11c2) (by decide +kernel) rfl rfl rfl (by decide +kernel)
set_option maxRecDepth 65536 in
theorem w_c38 : (Jvm.Cond.code ({ cls := "java/lang/StringBuilder", name := "toString", desc := "()Ljava/lang/String;" } : Jvm.MethodName) jdk_67_method_42_code (1 : Nat) (Option.some (Jvm.ClassFile.FieldType.object "java/lang/String"))).before args0 about1 = true := code_word (m := ⟨16, 3⟩) (meth := k16m3) (c := k16c3) (by decide +kernel) rfl rfl rfl (by decide +kernel)
set_option maxRecDepth 65536 in
theorem w_c39 : (Jvm.Cond.code ({ cls := "java/lang/String", name := "<init>", desc := "(Ljava/lang/StringBuilder;)V" } : Jvm.MethodName) jdk_42_method_53_code (2 : Nat) (Option.none : Option Jvm.ClassFile.FieldType)).before args0 about1 = true := code_word (m := ⟨7, 2⟩) (meth := k7m2) (c := k7c2) (by decide +kernel) rfl rfl rfl (by decide +kernel)
set_option maxRecDepth 65536 in
theorem w_c40 : (Jvm.Cond.code ({ cls := "java/lang/String", name := "<init>", desc := "(Ljava/lang/AbstractStringBuilder;Ljava/lang/Void;)V" } : Jvm.MethodName) jdk_42_method_150_code (5 : Nat) (Option.none : Option Jvm.ClassFile.FieldType)).before args0 about1 = true := code_word (m := ⟨7, 10⟩) (meth := k7m10) (c := k7c10) (by decide +kernel) rfl rfl rfl (by decide +kernel)
set_option maxRecDepth 65536 in
theorem w_c41 : (Jvm.Cond.code ({ cls := "java/lang/AbstractStringBuilder", name := "getValue", desc := "()[B" } : Jvm.MethodName) jdk_68_method_64_code (1 : Nat) (Option.some (Jvm.ClassFile.FieldType.array Jvm.ClassFile.FieldType.byte))).before args0 about1 = true := code_word (m := ⟨15, 6⟩) (meth := k15m6) (c := k15c6) (by decide +kernel) rfl rfl rfl (by decide +kernel)
set_option maxRecDepth 65536 in
theorem w_c42 : (Jvm.Cond.code ({ cls := "java/lang/StringBuilder", name := "length", desc := "()I" } : Jvm.MethodName) jdk_67_method_93_code (1 : Nat) (Option.some Jvm.ClassFile.FieldType.int)).before args0 about1 = true := code_word (m := ⟨16, 4⟩) (meth := k16m4) (c := k16c4) (by decide +kernel) rfl rfl rfl (by decide +kernel)
set_option maxRecDepth 65536 in
theorem w_c43 : (Jvm.Cond.code ({ cls := "java/lang/AbstractStringBuilder", name := "length", desc := "()I" } : Jvm.MethodName) jdk_68_method_6_code (1 : Nat) (Option.some Jvm.ClassFile.FieldType.int)).before args0 about1 = true := code_word (m := ⟨15, 2⟩) (meth := k15m2) (c := k15c2) (by decide +kernel) rfl rfl rfl (by decide +kernel)
set_option maxRecDepth 65536 in
theorem w_c44 : (Jvm.Cond.code ({ cls := "java/util/Arrays", name := "copyOfRange", desc := "([BII)[B" } : Jvm.MethodName) jdk_65_method_132_code (3 : Nat) (Option.some (Jvm.ClassFile.FieldType.array Jvm.ClassFile.FieldType.byte))).before args0 about1 = true := code_word (m := ⟨18, 2⟩) (meth := k18m2) (c := k18c2) (by decide +kernel) rfl rfl rfl (by decide +kernel)
set_option maxRecDepth 65536 in
theorem w_c45 : (Jvm.Cond.code ({ cls := "java/util/Arrays", name := "copyOfRangeByte", desc := "([BII)[B" } : Jvm.MethodName) jdk_65_method_133_code (5 : Nat) (Option.some (Jvm.ClassFile.FieldType.array Jvm.ClassFile.FieldType.byte))).before args0 about1 = true := code_word (m := ⟨18, 3⟩) (meth := k18m3) (c := k18c3) (by decide +kernel) rfl rfl rfl (by decide +kernel)
set_option maxRecDepth 65536 in
theorem w_c46 : (Jvm.Cond.code ({ cls := "java/util/Arrays", name := "checkLength", desc := "(II)V" } : Jvm.MethodName) jdk_65_method_131_code (2 : Nat) (Option.none : Option Jvm.ClassFile.FieldType)).before args0 about1 = true := code_word (m := ⟨18, 1⟩) (meth := k18m1) (c := k18c1) (by decide +kernel) rfl rfl rfl (by decide +kernel)
set_option maxRecDepth 65536 in
theorem w_c47 : (Jvm.Cond.code ({ cls := "com/example/holdfast/holdfast/redis/LockKeysLockKeyPinLaw", name := "at", desc := "(Ljava/lang/String;IIII[C[C)Z" } : Jvm.MethodName) method_5_code (7 : Nat) (Option.some Jvm.ClassFile.FieldType.boolean)).before args0 about1 = true := code_word (m := ⟨1, 4⟩) (meth := k1m4) (c := k1c4) (by decide +kernel) rfl rfl rfl (by decide +kernel)
set_option maxRecDepth 65536 in
theorem w_c48 : (Jvm.Cond.code ({ cls := "com/example/holdfast/holdfast/redis/LockKeysLockKeyPinLaw", name := "expected", desc := "(III[C[C)C" } : Jvm.MethodName) method_6_code (6 : Nat) (Option.some Jvm.ClassFile.FieldType.char)).before args0 about1 = true := code_word (m := ⟨1, 5⟩) (meth := k1m5) (c := k1c5) (by decide +kernel) rfl rfl rfl (by decide +kernel)
set_option maxRecDepth 65536 in
theorem w_c49 : (Jvm.Cond.code ({ cls := "java/lang/StringLatin1", name := "indexOfChar", desc := "([BIII)I" } : Jvm.MethodName) jdk_43_method_23_code (6 : Nat) (Option.some Jvm.ClassFile.FieldType.int)).before args0 about1 = true := code_word (m := ⟨11, 5⟩) (meth := k11m5) (c := k11c5) (by decide +kernel) rfl rfl rfl (by decide +kernel)
def codes1 : List Jvm.Cond := [Jvm.Cond.code x code maxLocals ret, Jvm.Cond.code ({ cls := "com/example/holdfast/holdfast/redis/LockKeysLockKeyPinLaw", name := "prefixChar", desc := "(I)C" } : Jvm.MethodName) method_3_code (2 : Nat) (Option.some Jvm.ClassFile.FieldType.char), Jvm.Cond.code ({ cls := "com/example/holdfast/holdfast/redis/LockKeysLockKeyPinLaw", name := "str", desc := "(ICCC)Ljava/lang/String;" } : Jvm.MethodName) method_4_code (4 : Nat) (Option.some (Jvm.ClassFile.FieldType.object "java/lang/String")), Jvm.Cond.code ({ cls := "java/lang/String", name := "<init>", desc := "([C)V" } : Jvm.MethodName) jdk_42_method_3_code (2 : Nat) (Option.none : Option Jvm.ClassFile.FieldType), Jvm.Cond.code ({ cls := "java/lang/String", name := "<init>", desc := "([CIILjava/lang/Void;)V" } : Jvm.MethodName) jdk_42_method_149_code (6 : Nat) (Option.none : Option Jvm.ClassFile.FieldType), Jvm.Cond.code ({ cls := "java/lang/Object", name := "<init>", desc := "()V" } : Jvm.MethodName) object_method_1_code (1 : Nat) (Option.none : Option Jvm.ClassFile.FieldType), Jvm.Cond.code ({ cls := "java/lang/StringUTF16", name := "compress", desc := "([CII)[B" } : Jvm.MethodName) jdk_52_method_16_code (6 : Nat) (Option.some (Jvm.ClassFile.FieldType.array Jvm.ClassFile.FieldType.byte)), Jvm.Cond.code ({ cls := "java/lang/StringUTF16", name := "compress", desc := "([CI[BII)I" } : Jvm.MethodName) jdk_52_method_21_code (7 : Nat) (Option.some Jvm.ClassFile.FieldType.int), Jvm.Cond.code ({ cls := "java/lang/StringUTF16", name := "coderFromArrayLen", desc := "([BI)B" } : Jvm.MethodName) jdk_52_method_15_code (2 : Nat) (Option.some Jvm.ClassFile.FieldType.byte), Jvm.Cond.code ({ cls := "com/example/holdfast/holdfast/redis/LockKeys", name := "<init>", desc := "(Ljava/lang/String;)V" } : Jvm.MethodName) prog_7_method_1_code (2 : Nat) (Option.none : Option Jvm.ClassFile.FieldType), Jvm.Cond.code ({ cls := "java/util/Objects", name := "requireNonNull", desc := "(Ljava/lang/Object;Ljava/lang/String;)Ljava/lang/Object;" } : Jvm.MethodName) jdk_31_method_11_code (2 : Nat) (Option.some (Jvm.ClassFile.FieldType.object "java/lang/Object")), Jvm.Cond.code ({ cls := "java/lang/String", name := "indexOf", desc := "(I)I" } : Jvm.MethodName) jdk_42_method_79_code (2 : Nat) (Option.some Jvm.ClassFile.FieldType.int), Jvm.Cond.code ({ cls := "java/lang/String", name := "indexOf", desc := "(II)I" } : Jvm.MethodName) jdk_42_method_80_code (3 : Nat) (Option.some Jvm.ClassFile.FieldType.int), Jvm.Cond.code ({ cls := "java/lang/String", name := "isLatin1", desc := "()Z" } : Jvm.MethodName) jdk_42_method_154_code (1 : Nat) (Option.some Jvm.ClassFile.FieldType.boolean), Jvm.Cond.code ({ cls := "java/lang/String", name := "length", desc := "()I" } : Jvm.MethodName) jdk_42_method_54_code (1 : Nat) (Option.some Jvm.ClassFile.FieldType.int), Jvm.Cond.code ({ cls := "java/lang/String", name := "coder", desc := "()B" } : Jvm.MethodName) jdk_42_method_152_code (1 : Nat) (Option.some Jvm.ClassFile.FieldType.byte), Jvm.Cond.code ({ cls := "java/lang/StringLatin1", name := "indexOf", desc := "([BIII)I" } : Jvm.MethodName) jdk_43_method_22_code (4 : Nat) (Option.some Jvm.ClassFile.FieldType.int), Jvm.Cond.code ({ cls := "java/lang/StringLatin1", name := "canEncode", desc := "(I)Z" } : Jvm.MethodName) jdk_43_method_4_code (1 : Nat) (Option.some Jvm.ClassFile.FieldType.boolean), Jvm.Cond.code ({ cls := "java/lang/Math", name := "max", desc := "(II)I" } : Jvm.MethodName) jdk_29_method_65_code (2 : Nat) (Option.some Jvm.ClassFile.FieldType.int), Jvm.Cond.code ({ cls := "java/lang/Math", name := "min", desc := "(II)I" } : Jvm.MethodName) jdk_29_method_69_code (2 : Nat) (Option.some Jvm.ClassFile.FieldType.int), Jvm.Cond.code ({ cls := "com/example/holdfast/holdfast/redis/LockKeys", name := "lockKey", desc := "(Ljava/lang/String;)Ljava/lang/String;" } : Jvm.MethodName) prog_7_method_2_code (2 : Nat) (Option.some (Jvm.ClassFile.FieldType.object "java/lang/String")), Jvm.Cond.code ({ cls := "java/lang/String", name := "isEmpty", desc := "()Z" } : Jvm.MethodName) jdk_42_method_55_code (1 : Nat) (Option.some Jvm.ClassFile.FieldType.boolean), Jvm.Cond.code ({ cls := "java/lang/String", name := "charAt", desc := "(I)C" } : Jvm.MethodName) jdk_42_method_56_code (2 : Nat) (Option.some Jvm.ClassFile.FieldType.char), Jvm.Cond.code ({ cls := "java/lang/StringLatin1", name := "charAt", desc := "([BI)C" } : Jvm.MethodName) jdk_43_method_2_code (2 : Nat) (Option.some Jvm.ClassFile.FieldType.char), Jvm.Cond.code ({ cls := "java/lang/String", name := "checkIndex", desc := "(II)V" } : Jvm.MethodName) jdk_42_method_155_code (2 : Nat) (Option.none : Option Jvm.ClassFile.FieldType), Jvm.Cond.code ({ cls := "jdk/internal/util/Preconditions", name := "checkIndex", desc := "(IILjava/util/function/BiFunction;)I" } : Jvm.MethodName) jdk_41_method_11_code (3 : Nat) (Option.some Jvm.ClassFile.FieldType.int), Jvm.Cond.code ({ cls := "java/lang/StringBuilder", name := "<init>", desc := "()V" } : Jvm.MethodName) jdk_67_method_1_code (1 : Nat) (Option.none : Option Jvm.ClassFile.FieldType), Jvm.Cond.code ({ cls := "java/lang/AbstractStringBuilder", name := "<init>", desc := "(I)V" } : Jvm.MethodName) jdk_68_method_2_code (2 : Nat) (Option.none : Option Jvm.ClassFile.FieldType), Jvm.Cond.code ({ cls := "java/lang/StringBuilder", name := "append", desc := "(Ljava/lang/String;)Ljava/lang/StringBuilder;" } : Jvm.MethodName) jdk_67_method_7_code (2 : Nat) (Option.some (Jvm.ClassFile.FieldType.object "java/lang/StringBuilder")), Jvm.Cond.code ({ cls := "java/lang/AbstractStringBuilder", name := "append", desc := "(Ljava/lang/String;)Ljava/lang/AbstractStringBuilder;" } : Jvm.MethodName) jdk_68_method_22_code (3 : Nat) (Option.some (Jvm.ClassFile.FieldType.object "java/lang/AbstractStringBuilder")), Jvm.Cond.code ({ cls := "java/lang/AbstractStringBuilder", name := "ensureCapacityInternal", desc := "(I)V" } : Jvm.MethodName) jdk_68_method_9_code (3 : Nat) (Option.none : Option Jvm.ClassFile.FieldType), Jvm.Cond.code ({ cls := "java/lang/AbstractStringBuilder", name := "putStringAt", desc := "(ILjava/lang/String;)V" } : Jvm.MethodName) jdk_68_method_73_code (3 : Nat) (Option.none : Option Jvm.ClassFile.FieldType), Jvm.Cond.code ({ cls := "java/lang/AbstractStringBuilder", name := "inflateIfNeededFor", desc := "(Ljava/lang/String;)V" } : Jvm.MethodName) jdk_68_method_71_code (2 : Nat) (Option.none : Option Jvm.ClassFile.FieldType), Jvm.Cond.code ({ cls := "java/lang/String", name := "getBytes", desc := "([BIB)V" } : Jvm.MethodName) jdk_42_method_147_code (4 : Nat) (Option.none : Option Jvm.ClassFile.FieldType), Jvm.Cond.code ({ cls := "java/lang/StringBuilder", name := "append", desc := "(C)Ljava/lang/StringBuilder;" } : Jvm.MethodName) jdk_67_method_14_code (2 : Nat) (Option.some (Jvm.ClassFile.FieldType.object "java/lang/StringBuilder")), Jvm.Cond.code ({ cls := "java/lang/AbstractStringBuilder", name := "append", desc := "(C)Ljava/lang/AbstractStringBuilder;" } : Jvm.MethodName) jdk_68_method_31_code (2 : Nat) (Option.some (Jvm.ClassFile.FieldType.object "java/lang/AbstractStringBuilder")), Jvm.Cond.code ({ cls := "java/lang/AbstractStringBuilder", name := "isLatin1", desc := "()Z" } : Jvm.MethodName) jdk_68_method_68_code (1 : Nat) (Option.some Jvm.ClassFile.FieldType.boolean), Jvm.Cond.code ({ cls := "java/lang/StringLatin1", name := "canEncode", desc := "(C)Z" } : Jvm.MethodName) jdk_43_method_3_code (1 : Nat) (Option.some Jvm.ClassFile.FieldType.boolean), Jvm.Cond.code ({ cls := "java/lang/StringBuilder", name := "toString", desc := "()Ljava/lang/String;" } : Jvm.MethodName) jdk_67_method_42_code (1 : Nat) (Option.some (Jvm.ClassFile.FieldType.object "java/lang/String")), Jvm.Cond.code ({ cls := "java/lang/String", name := "<init>", desc := "(Ljava/lang/StringBuilder;)V" } : Jvm.MethodName) jdk_42_method_53_code (2 : Nat) (Option.none : Option Jvm.ClassFile.FieldType), Jvm.Cond.code ({ cls := "java/lang/String", name := "<init>", desc := "(Ljava/lang/AbstractStringBuilder;Ljava/lang/Void;)V" } : Jvm.MethodName) jdk_42_method_150_code (5 : Nat) (Option.none : Option Jvm.ClassFile.FieldType), Jvm.Cond.code ({ cls := "java/lang/AbstractStringBuilder", name := "getValue", desc := "()[B" } : Jvm.MethodName) jdk_68_method_64_code (1 : Nat) (Option.some (Jvm.ClassFile.FieldType.array Jvm.ClassFile.FieldType.byte)), Jvm.Cond.code ({ cls := "java/lang/StringBuilder", name := "length", desc := "()I" } : Jvm.MethodName) jdk_67_method_93_code (1 : Nat) (Option.some Jvm.ClassFile.FieldType.int), Jvm.Cond.code ({ cls := "java/lang/AbstractStringBuilder", name := "length", desc := "()I" } : Jvm.MethodName) jdk_68_method_6_code (1 : Nat) (Option.some Jvm.ClassFile.FieldType.int), Jvm.Cond.code ({ cls := "java/util/Arrays", name := "copyOfRange", desc := "([BII)[B" } : Jvm.MethodName) jdk_65_method_132_code (3 : Nat) (Option.some (Jvm.ClassFile.FieldType.array Jvm.ClassFile.FieldType.byte)), Jvm.Cond.code ({ cls := "java/util/Arrays", name := "copyOfRangeByte", desc := "([BII)[B" } : Jvm.MethodName) jdk_65_method_133_code (5 : Nat) (Option.some (Jvm.ClassFile.FieldType.array Jvm.ClassFile.FieldType.byte)), Jvm.Cond.code ({ cls := "java/util/Arrays", name := "checkLength", desc := "(II)V" } : Jvm.MethodName) jdk_65_method_131_code (2 : Nat) (Option.none : Option Jvm.ClassFile.FieldType), Jvm.Cond.code ({ cls := "com/example/holdfast/holdfast/redis/LockKeysLockKeyPinLaw", name := "at", desc := "(Ljava/lang/String;IIII[C[C)Z" } : Jvm.MethodName) method_5_code (7 : Nat) (Option.some Jvm.ClassFile.FieldType.boolean), Jvm.Cond.code ({ cls := "com/example/holdfast/holdfast/redis/LockKeysLockKeyPinLaw", name := "expected", desc := "(III[C[C)C" } : Jvm.MethodName) method_6_code (6 : Nat) (Option.some Jvm.ClassFile.FieldType.char), Jvm.Cond.code ({ cls := "java/lang/StringLatin1", name := "indexOfChar", desc := "([BIII)I" } : Jvm.MethodName) jdk_43_method_23_code (6 : Nat) (Option.some Jvm.ClassFile.FieldType.int)]
set_option maxRecDepth 65536 in
theorem codes_eq : words1.filter isCode = codes1 := rfl
theorem w_codes : ∀ c ∈ words1.filter isCode, c.before args0 about1 = true := by
  rw [codes_eq]
  intro c hc
  simp only [codes1, List.mem_cons, List.not_mem_nil, or_false] at hc
  rcases hc with rfl | rfl | rfl | rfl | rfl | rfl | rfl | rfl | rfl | rfl | rfl | rfl | rfl | rfl | rfl | rfl | rfl | rfl | rfl | rfl | rfl | rfl | rfl | rfl | rfl | rfl | rfl | rfl | rfl | rfl | rfl | rfl | rfl | rfl | rfl | rfl | rfl | rfl | rfl | rfl | rfl | rfl | rfl | rfl | rfl | rfl | rfl | rfl | rfl | rfl
  · exact w_c0
  · exact w_c1
  · exact w_c2
  · exact w_c3
  · exact w_c4
  · exact w_c5
  · exact w_c6
  · exact w_c7
  · exact w_c8
  · exact w_c9
  · exact w_c10
  · exact w_c11
  · exact w_c12
  · exact w_c13
  · exact w_c14
  · exact w_c15
  · exact w_c16
  · exact w_c17
  · exact w_c18
  · exact w_c19
  · exact w_c20
  · exact w_c21
  · exact w_c22
  · exact w_c23
  · exact w_c24
  · exact w_c25
  · exact w_c26
  · exact w_c27
  · exact w_c28
  · exact w_c29
  · exact w_c30
  · exact w_c31
  · exact w_c32
  · exact w_c33
  · exact w_c34
  · exact w_c35
  · exact w_c36
  · exact w_c37
  · exact w_c38
  · exact w_c39
  · exact w_c40
  · exact w_c41
  · exact w_c42
  · exact w_c43
  · exact w_c44
  · exact w_c45
  · exact w_c46
  · exact w_c47
  · exact w_c48
  · exact w_c49
set_option maxRecDepth 65536 in
theorem w_t1 : (words1.take 24).all (fun c => isCode c || c.before args0 about1) = true := by decide +kernel
set_option maxRecDepth 65536 in
theorem w_t2 : ((words1.drop 24).take 24).all (fun c => isCode c || c.before args0 about1) = true := by decide +kernel
set_option maxRecDepth 65536 in
theorem w_t3 : (((words1.drop 24).drop 24).take 24).all (fun c => isCode c || c.before args0 about1) = true := by decide +kernel
set_option maxRecDepth 65536 in
theorem w_t4 : ((((words1.drop 24).drop 24).drop 24).take 24).all (fun c => isCode c || c.before args0 about1) = true := by decide +kernel
set_option maxRecDepth 65536 in
theorem w_t5 : (((((words1.drop 24).drop 24).drop 24).drop 24).take 24).all (fun c => isCode c || c.before args0 about1) = true := by decide +kernel
set_option maxRecDepth 65536 in
theorem w_t6 : ((((((words1.drop 24).drop 24).drop 24).drop 24).drop 24).take 24).all (fun c => isCode c || c.before args0 about1) = true := by decide +kernel
set_option maxRecDepth 65536 in
theorem w_t7 : (((((((words1.drop 24).drop 24).drop 24).drop 24).drop 24).drop 24).take 24).all (fun c => isCode c || c.before args0 about1) = true := by decide +kernel
set_option maxRecDepth 65536 in
theorem w_t8 : ((((((((words1.drop 24).drop 24).drop 24).drop 24).drop 24).drop 24).drop 24).take 24).all (fun c => isCode c || c.before args0 about1) = true := by decide +kernel
set_option maxRecDepth 65536 in
theorem w_t9 : (((((((((words1.drop 24).drop 24).drop 24).drop 24).drop 24).drop 24).drop 24).drop 24).take 24).all (fun c => isCode c || c.before args0 about1) = true := by decide +kernel
set_option maxRecDepth 65536 in
theorem w_t10 : ((((((((((words1.drop 24).drop 24).drop 24).drop 24).drop 24).drop 24).drop 24).drop 24).drop 24).take 24).all (fun c => isCode c || c.before args0 about1) = true := by decide +kernel
set_option maxRecDepth 65536 in
theorem w_t11 : ((((((((((words1.drop 24).drop 24).drop 24).drop 24).drop 24).drop 24).drop 24).drop 24).drop 24).drop 24).all (fun c => isCode c || c.before args0 about1) = true := by decide +kernel
theorem w_tables : (allAtoms (Jvm.Cond.code x code maxLocals ret :: tables_1)).before args0 about1 = true := by
  rw [allAtoms_all]
  show words1.all (fun c => c.before args0 about1) = true
  refine all_split ?_ w_codes
  rw [← List.take_append_drop 24 words1, List.all_append, w_t1, ← List.take_append_drop 24 (words1.drop 24), List.all_append, w_t2, ← List.take_append_drop 24 ((words1.drop 24).drop 24), List.all_append, w_t3, ← List.take_append_drop 24 (((words1.drop 24).drop 24).drop 24), List.all_append, w_t4, ← List.take_append_drop 24 ((((words1.drop 24).drop 24).drop 24).drop 24), List.all_append, w_t5, ← List.take_append_drop 24 (((((words1.drop 24).drop 24).drop 24).drop 24).drop 24), List.all_append, w_t6, ← List.take_append_drop 24 ((((((words1.drop 24).drop 24).drop 24).drop 24).drop 24).drop 24), List.all_append, w_t7, ← List.take_append_drop 24 (((((((words1.drop 24).drop 24).drop 24).drop 24).drop 24).drop 24).drop 24), List.all_append, w_t8, ← List.take_append_drop 24 ((((((((words1.drop 24).drop 24).drop 24).drop 24).drop 24).drop 24).drop 24).drop 24), List.all_append, w_t9, ← List.take_append_drop 24 (((((((((words1.drop 24).drop 24).drop 24).drop 24).drop 24).drop 24).drop 24).drop 24).drop 24), List.all_append, w_t10, w_t11]
  rfl
set_option maxRecDepth 65536 in
theorem w_rest : rest_1_c.before args0 about1 = true := by decide +kernel
set_option maxRecDepth 65536 in
theorem w_case : (Jvm.Cond.and given_1 narrow_1).before args0 about1 = true := by decide +kernel
set_option maxRecDepth 65536 in
theorem w_consts : constsHeld consts_1 about1 := Jvm.Lit.constsHeldB_iff.mp (by decide +kernel)
theorem w_applies : (headSpec (Jvm.Cond.code x code maxLocals ret :: tables_1) room_1).applies x e0.platform about1 = true :=
  (Spec.applies_iff w_frames).mpr ⟨w_running, w_runnable, w_alone, w_named, w_hears, w_ripe, w_room, w_tables⟩
theorem atStart : AtStart classFile x code maxLocals ret World_1 tables_1 room_1 Calls_1 rest_1 Pre_1 launch0 p0 e0 about1 theMethod args0 below0 :=
  ⟨lists_1, trivial, launch0.admits_env _ _ _, launch0.least_env, fairChoices_fair.cas, fairChoices_fair.clock, w_frames, w_args, w_heap, w_applies, ⟨w_consts, trivial⟩, w_rest, w_case⟩
end start1
theorem witness_1 : WitnessClaimed_1 := ⟨start1.p0, start1.e0, start1.about1, start1.theMethod, start1.args0, start1.below0, start1.atStart⟩
end Jvm.Pilot.@@N@@
